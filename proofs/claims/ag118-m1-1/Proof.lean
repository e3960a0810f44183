import JvmDerived
import JvmDerived.Pilot.@@N@@Statement
import JvmDerived.Pilot.@@N@@Code
set_option linter.unusedVariables false
set_option linter.unusedSimpArgs false
namespace Jvm.RoadKit
open Sem ClassFile Op Lib Jvm.Stand Jvm.Free Jvm.LawKit
section Own
variable {p : Program} {l : Launch} {e : Env} {R : Room} {s : State} {m : MethodId} {args : Array Value} {below : List Frame} {meth : Method} {c : Code} {T : State} {locs : List Loc} {cells slots : Nat}
theorem own_ni0 {a : Addr} : a ∉ ([] : List Addr) := List.not_mem_nil
theorem own_niS {a b : Addr} {ws : List Addr} (h : a ≠ b) (r : a ∉ ws) : a ∉ b :: ws := fun q => (List.mem_cons.mp q).elim h r
theorem own_all0 {P : Addr → Prop} : ∀ x ∈ ([] : List Addr), P x := fun _ q => nomatch q
theorem own_allS {P : Addr → Prop} {b : Addr} {ws : List Addr} (h : P b) (r : ∀ x ∈ ws, P x) : ∀ x ∈ b :: ws, P x := fun x q => (List.mem_cons.mp q).elim (fun e => e ▸ h) (r x)
theorem own_lremM {g : JFrame} {target : State} (X : Stand p l e R s m args below meth c T locs cells slots) (hx : p.tables.exec = Jvm.exec) (hg : g.method = m) {x y : Int64} {rest : List Value} (hd : decode c.code g.pc = .ok (.lrem, 1)) (hs : g.stack = .long y :: .long x :: rest) (hy : y ≠ 0)
    (hr : Steps p.tables e below (T.setTop { g with pc := g.pc + 1, stack := .long (x % y) :: rest }) target) : Steps p.tables e below (T.setTop g) target :=
  XS.lrem X.here hx hg hd hs hy (by rw [lrem_mod]; exact hr)
end Own
end Jvm.RoadKit
namespace Jvm.OwnFP
open Jvm.FP Jvm.FP.Core Jvm.Free.Fl
/-- a double's worth, in units of the least positive double -/
def zv (x : UInt64) : Int := zval b64 (val64 x)
/-- x is finite and is the number i / D -/
def Ra (i : Int) (D : Nat) (x : UInt64) : Prop := DFin x ∧ zv x * (D : Int) = i * (one64 : Int)
theorem Ra.fin {i : Int} {D : Nat} {x : UInt64} (h : Ra i D x) : Fin64 x := fin64_core.mpr h.1
theorem Ra.nn {i : Int} {D : Nat} {x : UInt64} (h : Ra i D x) : NoNaN64 x := h.fin.noNaN
theorem Ra.ne_nan {i : Int} {D : Nat} {x : UInt64} (h : Ra i D x) : val64 x ≠ .nan := h.1.ne_nan
theorem oz : (0 : Int) < (one64 : Int) := Int.natCast_pos.mpr one64_pos
theorem nan_of {x : UInt64} (h : NoNaN64 x) : val64 x ≠ .nan := (notNaN_iff x).mp (noNaN64_no.mp h)
theorem mulc {a b c : Int} (hc : c ≠ 0) (h : a * c = b * c) : a = b := Int.eq_of_mul_eq_mul_right hc h
theorem al_scale {z D D' i i' o : Int} (h : z * D = i * o) (e : i * D' = i' * D) : z * D' * D = i' * o * D := by
  calc z * D' * D = z * D * D' := by ac_rfl
    _ = i * o * D' := by rw [h]
    _ = i * D' * o := by ac_rfl
    _ = i' * o * D := by rw [e]; ac_rfl
theorem al_mul {x y v D E i j o : Int} (hx : x * D = i * o) (hy : y * E = j * o) (hv : v * (D * E) = i * j * o) : x * y * (D * E) = v * o * (D * E) := by
  calc x * y * (D * E) = (x * D) * (y * E) := by ac_rfl
    _ = (i * o) * (j * o) := by rw [hx, hy]
    _ = (i * j * o) * o := by ac_rfl
    _ = v * (D * E) * o := by rw [hv]
    _ = v * o * (D * E) := by ac_rfl
theorem al_mulr {x y v D E F i j r o : Int} (hx : x * D = i * o) (hy : y * E = j * o) (hv : v * F = r * o) (h : i * j * F = r * (D * E)) : x * y * D * E * F = v * o * D * E * F := by
  calc x * y * D * E * F = (x * D) * (y * E) * F := by ac_rfl
    _ = (i * j * F) * (o * o) := by rw [hx, hy]; ac_rfl
    _ = (r * o) * o * (D * E) := by rw [h]; ac_rfl
    _ = (v * F) * o * (D * E) := by rw [hv]
    _ = v * o * D * E * F := by ac_rfl
theorem al_div {x y v D E F i j r o : Int} (hx : x * D = i * o) (hy : y * E = j * o) (hv : v * F = r * o) (h : i * E * F = r * (j * D)) : x * o * D * E * F = v * y * D * E * F := by
  calc x * o * D * E * F = (x * D) * (o * E * F) := by ac_rfl
    _ = (i * E * F) * (o * o) := by rw [hx]; ac_rfl
    _ = (r * o) * (j * o) * D := by rw [h]; ac_rfl
    _ = (v * F) * (y * E) * D := by rw [hv, hy]
    _ = v * y * D * E * F := by ac_rfl
theorem al_units {V d P Q : Nat} : V * P * d * Q = (V * (d * Q)) * P := by ac_rfl
theorem al_mag {i P D o : Nat} (h : i ≤ P * D) : i * o ≤ P * o * D := by
  calc i * o ≤ P * D * o := Nat.mul_le_mul_right _ h
    _ = P * o * D := by ac_rfl
theorem rep {i : Int} {D k : Nat} (hi : i.natAbs < 9007199254740992) (hD : D = 2 ^ k) (hk : k ≤ 1000) : ∃ V, Ra i D V := by
  have hc : i.natAbs < 2 ^ b64.p := by rw [show (2 : Nat) ^ b64.p = 9007199254740992 by decide +kernel]; exact hi
  have hq2 : b64.qmax = 971 := by decide
  obtain ⟨c', q', h1, h2⟩ := round_exact good_b64 (decide (i < 0)) (c := i.natAbs) (q := -(k : Int)) hc (by rw [qmin_b64]; omega) (by rw [hq2]; omega)
  refine ⟨of64 (round b64 (.fin (decide (i < 0)) i.natAbs (-(k : Int)))), ⟨_, _, _, by rw [val64_of64 (round_fits good_b64 _), h1]⟩, ?_⟩
  unfold zv
  rw [val64_of64 (round_fits good_b64 _), h1]
  show signed (decide (i < 0)) (inUnits c' q' b64.qmin) * _ = _
  rw [h2]
  unfold inUnits
  have e1 : signed (decide (i < 0)) i.natAbs = i := by unfold signed; by_cases h : i < 0 <;> simp [h] <;> omega
  have e2 : (-(k : Int) - b64.qmin).toNat + k = 1074 := by rw [qmin_b64]; omega
  rw [signed_mul, e1, Int.mul_assoc, hD, ← Int.natCast_mul, ← Nat.pow_add, e2]
  rfl
theorem fin_of {x V : UInt64} (hn : val64 x ≠ .nan) (hV : DFin V) (h : zv x = zv V) : DFin x := by
  cases hx : val64 x with
  | nan => exact absurd hx hn
  | fin s c q => exact ⟨s, c, q, hx⟩
  | inf s =>
    exfalso
    have h1 := hV.zval_lt
    unfold zv zval at h
    rw [hx] at h
    have h2 := congrArg Int.natAbs h
    rw [natAbs_signed, natAbs_signed] at h2
    exact absurd h2.symm (Nat.ne_of_lt h1)
theorem Ra.scale {i i' : Int} {D D' : Nat} {x : UInt64} (h : Ra i D x) (hD : 0 < D) (e : i * (D' : Int) = i' * (D : Int)) : Ra i' D' x := by
  exact ⟨h.1, mulc (c := (D : Int)) (by omega) (al_scale h.2 e)⟩
theorem Ra.same {i i' : Int} {D : Nat} {x : UInt64} (h : Ra i D x) (e : i = i') : Ra i' D x := e ▸ h
theorem Ra.add {i j : Int} {D k : Nat} {x y : UInt64} (hx : Ra i D x) (hy : Ra j D y) (h : (i + j).natAbs < 9007199254740992) (hD : D = 2 ^ k) (hk : k ≤ 1000) : Ra (i + j) D (FP.dadd x y) := by
  obtain ⟨V, hV⟩ := rep h hD hk
  have hD0 : (D : Int) ≠ 0 := by rw [hD]; exact Int.ne_of_gt (Int.natCast_pos.mpr (Nat.two_pow_pos k))
  have hs : zval b64 (val64 x) + zval b64 (val64 y) = zval b64 (val64 V) := mulc hD0 (by
    have a := hx.2; have b := hy.2; have c := hV.2
    unfold zv at a b c
    rw [Int.add_mul, a, b, c, Int.add_mul])
  have hz : zv (Core.dadd x y) = zv V := by
    unfold zv
    rw [val64_dadd]
    exact Int.le_antisymm (sum_le good_b64 hx.1 hy.1 (val64_fits x) (val64_fits y) (val64_fits V) hV.ne_nan (Int.le_of_eq hs)) (sum_ge good_b64 hx.1 hy.1 (val64_fits x) (val64_fits y) (val64_fits V) hV.ne_nan (Int.le_of_eq hs.symm))
  exact ⟨fin_of ((notNaN_iff _).mp (dadd_out hx.1.notNaN hy.1)) hV.1 hz, by show zv (Core.dadd x y) * _ = _; rw [hz, hV.2]⟩
theorem fin_negate {x : UInt64} (h : DFin x) : ∃ s c q, negate (val64 x) = .fin s c q := by
  obtain ⟨s, c, q, h⟩ := h; exact ⟨!s, c, q, by rw [h]; rfl⟩
theorem Ra.sub {i j : Int} {D k : Nat} {x y : UInt64} (hx : Ra i D x) (hy : Ra j D y) (h : (i - j).natAbs < 9007199254740992) (hD : D = 2 ^ k) (hk : k ≤ 1000) : Ra (i - j) D (FP.dsub x y) := by
  obtain ⟨V, hV⟩ := rep h hD hk
  have hD0 : (D : Int) ≠ 0 := by rw [hD]; exact Int.ne_of_gt (Int.natCast_pos.mpr (Nat.two_pow_pos k))
  have hs : zval b64 (val64 x) + zval b64 (negate (val64 y)) = zval b64 (val64 V) := mulc hD0 (by
    have a := hx.2; have b := hy.2; have c := hV.2
    unfold zv at a b c
    rw [zval_negate, Int.add_mul, Int.neg_mul, a, b, c, Int.sub_mul]
    omega)
  have hz : zv (Core.dsub x y) = zv V := by
    unfold zv
    rw [val64_dsub]
    exact Int.le_antisymm (sum_le good_b64 hx.1 (fin_negate hy.1) (val64_fits x) (negate_fits (val64_fits y)) (val64_fits V) hV.ne_nan (Int.le_of_eq hs)) (sum_ge good_b64 hx.1 (fin_negate hy.1) (val64_fits x) (negate_fits (val64_fits y)) (val64_fits V) hV.ne_nan (Int.le_of_eq hs.symm))
  exact ⟨fin_of ((notNaN_iff _).mp (dsub_out hx.1.notNaN hy.1)) hV.1 hz, by show zv (Core.dsub x y) * _ = _; rw [hz, hV.2]⟩
theorem qq : (b64.qmin - 2 * b64.qmin).toNat = (-b64.qmin).toNat := by rw [qmin_b64]; decide
/-- a product, held against a double -/
theorem mul_le {x y V : UInt64} (hx : DFin x) (hy : DFin y) (hV : val64 V ≠ .nan) (h : zv x * zv y ≤ zv V * (one64 : Int)) : zv (Core.dmul x y) ≤ zv V := by
  obtain ⟨s, c, q, ex⟩ := hx
  obtain ⟨t, d, r, ey⟩ := hy
  have fx := val64_fits x; have fy := val64_fits y
  rw [ex] at fx; rw [ey] at fy
  obtain ⟨p1, p2, p3⟩ := product_units fx fy
  unfold zv at h ⊢
  rw [val64_dmul, ex, ey, p1]
  rw [ex, ey] at h
  exact zval_round_le good_b64 (val64_fits V) hV (e0 := 2 * b64.qmin) (by rw [qmin_b64]; decide) p2 (by rw [p3, signed_xor, qq, pow_qmin64]; exact h)
theorem mul_ge {x y V : UInt64} (hx : DFin x) (hy : DFin y) (hV : val64 V ≠ .nan) (h : zv V * (one64 : Int) ≤ zv x * zv y) : zv V ≤ zv (Core.dmul x y) := by
  obtain ⟨s, c, q, ex⟩ := hx
  obtain ⟨t, d, r, ey⟩ := hy
  have fx := val64_fits x; have fy := val64_fits y
  rw [ex] at fx; rw [ey] at fy
  obtain ⟨p1, p2, p3⟩ := product_units fx fy
  unfold zv at h ⊢
  rw [val64_dmul, ex, ey, p1]
  rw [ex, ey] at h
  exact zval_round_ge good_b64 (val64_fits V) hV (e0 := 2 * b64.qmin) (by rw [qmin_b64]; decide) p2 (by rw [p3, signed_xor, qq, pow_qmin64]; exact h)
/-- the product's worth, where it is a double's -/
theorem mul_zv {x y V : UInt64} (hx : DFin x) (hy : DFin y) (hV : val64 V ≠ .nan) (h : zv x * zv y = zv V * (one64 : Int)) : zv (Core.dmul x y) = zv V :=
  Int.le_antisymm (mul_le hx hy hV (Int.le_of_eq h)) (mul_ge hx hy hV (Int.le_of_eq h.symm))
theorem Ra.mul {i j : Int} {D E k : Nat} {x y : UInt64} (hx : Ra i D x) (hy : Ra j E y) (h : (i * j).natAbs < 9007199254740992) (hD : D * E = 2 ^ k) (hk : k ≤ 1000) : Ra (i * j) (D * E) (FP.dmul x y) := by
  obtain ⟨V, hV⟩ := rep h hD hk
  have hD0 : ((D * E : Nat) : Int) ≠ 0 := by rw [hD]; exact Int.ne_of_gt (Int.natCast_pos.mpr (Nat.two_pow_pos k))
  have hv := hV.2
  rw [Int.natCast_mul] at hv hD0
  have hs : zv x * zv y = zv V * (one64 : Int) := mulc hD0 (al_mul hx.2 hy.2 hv)
  have hz : zv (Core.dmul x y) = zv V := mul_zv hx.1 hy.1 hV.ne_nan hs
  exact ⟨fin_of ((notNaN_iff _).mp (dmul_out hx.1 hy.1)) hV.1 hz, by show zv (Core.dmul x y) * _ = _; rw [hz, hV.2]⟩
/-- a product written in its least terms -/
theorem Ra.mulr {i j r : Int} {D E F k : Nat} {x y : UInt64} (hx : Ra i D x) (hy : Ra j E y) (hD : 0 < D) (hE : 0 < E) (hr : r.natAbs < 9007199254740992) (hF : F = 2 ^ k) (hk : k ≤ 1000) (h : i * j * (F : Int) = r * ((D : Int) * (E : Int))) : Ra r F (FP.dmul x y) := by
  obtain ⟨V, hV⟩ := rep hr hF hk
  have hF0 : (F : Int) ≠ 0 := by rw [hF]; exact Int.ne_of_gt (Int.natCast_pos.mpr (Nat.two_pow_pos k))
  have hs : zv x * zv y = zv V * (one64 : Int) := by
    exact mulc (c := (D : Int)) (by omega) (mulc (c := (E : Int)) (by omega) (mulc hF0 (al_mulr hx.2 hy.2 hV.2 h)))
  have hz : zv (Core.dmul x y) = zv V := mul_zv hx.1 hy.1 hV.ne_nan hs
  exact ⟨fin_of ((notNaN_iff _).mp (dmul_out hx.1 hy.1)) hV.1 hz, by show zv (Core.dmul x y) * _ = _; rw [hz, hV.2]⟩
theorem zv_abs (x : UInt64) : (zv x).natAbs = zmag b64 (val64 x) := by unfold zv zval; rw [natAbs_signed]
/-- the quotient's parts -/
theorem div_parts {x y : UInt64} (hx : DFin x) (hy : DFin y) (hz : zv y ≠ 0) : ∃ s t c d q r, val64 x = .fin s c q ∧ val64 y = .fin t d r ∧ 0 < d ∧ b64.qmin ≤ q ∧ b64.qmin ≤ r ∧ zmag b64 (val64 x) = c * 2 ^ (q - b64.qmin).toNat ∧ zmag b64 (val64 y) = d * 2 ^ (r - b64.qmin).toNat ∧ val64 (Core.ddiv x y) = roundRatio b64 (s != t) c d (q - r) := by
  obtain ⟨s, c, q, ex⟩ := hx
  obtain ⟨t, d, r, ey⟩ := hy
  have fx := val64_fits x; have fy := val64_fits y
  rw [ex] at fx; rw [ey] at fy
  have hd : d ≠ 0 := fun h => hz (by unfold zv; rw [ey, h]; simp [zval, zmag, sgn, inUnits, signed])
  refine ⟨s, t, c, d, q, r, ex, ey, Nat.pos_of_ne_zero hd, fx.2.1, fy.2.1, by rw [ex]; rfl, by rw [ey]; rfl, ?_⟩
  rw [val64_ddiv, ex, ey]
  show (if d = 0 then _ else roundRatio b64 (s != t) c d (q - r)) = _
  rw [if_neg hd]
theorem div_units {c d V : Nat} {q r e : Int} (hq : b64.qmin ≤ q) (hr : b64.qmin ≤ r) (h1 : e ≤ b64.qmin) (h2 : e ≤ q - r) :
    inUnits c (q - r) e * 2 ^ (r - b64.qmin).toNat = (c * 2 ^ (q - b64.qmin).toNat * one64) * 2 ^ (b64.qmin - e).toNat ∧
      V * 2 ^ (b64.qmin - e).toNat * d * 2 ^ (r - b64.qmin).toNat = (V * (d * 2 ^ (r - b64.qmin).toNat)) * 2 ^ (b64.qmin - e).toNat := by
  refine ⟨?_, al_units⟩
  have hn : b64.qmin < 0 := by rw [qmin_b64]; decide
  unfold inUnits
  rw [← pow_qmin64, Nat.mul_assoc, Nat.mul_assoc, Nat.mul_assoc, ← Nat.pow_add, ← Nat.pow_add, ← Nat.pow_add]
  congr 2
  omega
theorem div_mag_le {x y V : UInt64} (hx : DFin x) (hy : DFin y) (hz : zv y ≠ 0) (hV : val64 V ≠ .nan) (h : (zv x).natAbs * one64 ≤ (zv V).natAbs * (zv y).natAbs) : (zv (Core.ddiv x y)).natAbs ≤ (zv V).natAbs := by
  obtain ⟨s, t, c, d, q, r, ex, ey, hd, hq, hr, mx, my, hv⟩ := div_parts hx hy hz
  rw [zv_abs, zv_abs, hv]
  rw [zv_abs, zv_abs, zv_abs, mx, my] at h
  refine zmag_roundRatio_le good_b64 hd (val64_fits V) hV (e0 := min b64.qmin (q - r)) (by omega) (by omega) ?_
  obtain ⟨u1, u2⟩ := div_units (c := c) (d := d) (V := zmag b64 (val64 V)) hq hr (e := min b64.qmin (q - r)) (by omega) (by omega)
  refine Nat.le_of_mul_le_mul_right (c := 2 ^ (r - b64.qmin).toNat) ?_ (Nat.two_pow_pos _)
  rw [u1, u2]
  exact Nat.mul_le_mul_right _ h
theorem div_mag_ge {x y V : UInt64} (hx : DFin x) (hy : DFin y) (hz : zv y ≠ 0) (h : (zv V).natAbs * (zv y).natAbs ≤ (zv x).natAbs * one64) : (zv V).natAbs ≤ (zv (Core.ddiv x y)).natAbs := by
  obtain ⟨s, t, c, d, q, r, ex, ey, hd, hq, hr, mx, my, hv⟩ := div_parts hx hy hz
  rw [zv_abs, zv_abs, hv]
  rw [zv_abs, zv_abs, zv_abs, mx, my] at h
  refine zmag_roundRatio_ge good_b64 hd (val64_fits V) (e0 := min b64.qmin (q - r)) (by omega) (by omega) ?_
  obtain ⟨u1, u2⟩ := div_units (c := c) (d := d) (V := zmag b64 (val64 V)) hq hr (e := min b64.qmin (q - r)) (by omega) (by omega)
  refine Nat.le_of_mul_le_mul_right (c := 2 ^ (r - b64.qmin).toNat) ?_ (Nat.two_pow_pos _)
  rw [u1, u2]
  exact Nat.mul_le_mul_right _ h
theorem zv_sgn (x : UInt64) : zv x = signed (sgn (val64 x)) (zv x).natAbs := by rw [zv_abs]; rfl
theorem div_sgn {x y : UInt64} (hx : DFin x) (hy : DFin y) (hz : zv y ≠ 0) : sgn (val64 (Core.ddiv x y)) = (sgn (val64 x) != sgn (val64 y)) := by
  obtain ⟨s, t, c, d, q, r, ex, ey, -, -, -, -, -, hv⟩ := div_parts hx hy hz
  rw [hv, sgn_roundRatio, ex, ey]; rfl
theorem sgn_pos {x : UInt64} (h : 0 < zv x) : sgn (val64 x) = false := by
  rw [zv_sgn] at h
  cases hs : sgn (val64 x) with
  | false => rfl
  | true => rw [hs] at h; simp [signed] at h; omega
theorem div_nonneg {x y : UInt64} (hx : DFin x) (hy : DFin y) (h1 : 0 < zv x) (h2 : 0 < zv y) : zv (Core.ddiv x y) = ((zv (Core.ddiv x y)).natAbs : Int) := by
  have h := div_sgn hx hy (Int.ne_of_gt h2)
  rw [sgn_pos h1, sgn_pos h2] at h
  rw [zv_sgn (Core.ddiv x y), h]; simp [signed]
theorem div_ge {x y V : UInt64} (hx : DFin x) (hy : DFin y) (h1 : 0 < zv x) (h2 : 0 < zv y) (hV : 0 ≤ zv V) (h : zv V * zv y ≤ zv x * (one64 : Int)) : zv V ≤ zv (Core.ddiv x y) := by
  have k : (zv V).natAbs * (zv y).natAbs ≤ (zv x).natAbs * one64 := by
    have e1 : ((zv V).natAbs : Int) = zv V := by omega
    have e2 : ((zv y).natAbs : Int) = zv y := by omega
    have e3 : ((zv x).natAbs : Int) = zv x := by omega
    refine Int.ofNat_le.mp ?_
    rw [Int.natCast_mul, Int.natCast_mul, e1, e2, e3]; exact h
  have := div_mag_ge hx hy (Int.ne_of_gt h2) k
  rw [div_nonneg hx hy h1 h2]; omega
theorem div_le {x y V : UInt64} (hx : DFin x) (hy : DFin y) (h1 : 0 < zv x) (h2 : 0 < zv y) (hn : val64 V ≠ .nan) (hV : 0 ≤ zv V) (h : zv x * (one64 : Int) ≤ zv V * zv y) : zv (Core.ddiv x y) ≤ zv V := by
  have k : (zv x).natAbs * one64 ≤ (zv V).natAbs * (zv y).natAbs := by
    have e1 : ((zv V).natAbs : Int) = zv V := by omega
    have e2 : ((zv y).natAbs : Int) = zv y := by omega
    have e3 : ((zv x).natAbs : Int) = zv x := by omega
    refine Int.ofNat_le.mp ?_
    rw [Int.natCast_mul, Int.natCast_mul, e1, e2, e3]; exact h
  have := div_mag_le hx hy (Int.ne_of_gt h2) hn k
  rw [div_nonneg hx hy h1 h2]; omega
theorem signed_inj {s t : Bool} {n : Nat} (hn : n ≠ 0) (h : signed s n = signed t n) : s = t := by
  cases s <;> cases t <;> simp [signed] at h ⊢ <;> omega
theorem xor_back {s t v : Bool} (h : s = (v != t)) : (s != t) = v := by cases s <;> cases t <;> cases v <;> simp_all
/-- the quotient's worth, where it is a double's -/
theorem div_zv {x y V : UInt64} (hx : DFin x) (hy : DFin y) (hz : zv y ≠ 0) (hV : DFin V) (h : zv x * (one64 : Int) = zv V * zv y) : zv (Core.ddiv x y) = zv V := by
  have ha : (zv x).natAbs * one64 = (zv V).natAbs * (zv y).natAbs := by
    have := congrArg Int.natAbs h
    rwa [Int.natAbs_mul, Int.natAbs_mul, Int.natAbs_natCast] at this
  have hm : (zv (Core.ddiv x y)).natAbs = (zv V).natAbs := Nat.le_antisymm (div_mag_le hx hy hz hV.ne_nan (Nat.le_of_eq ha)) (div_mag_ge hx hy hz (Nat.le_of_eq ha.symm))
  rw [zv_sgn (Core.ddiv x y), hm, div_sgn hx hy hz]
  by_cases h0 : (zv V).natAbs = 0
  · rw [h0, Int.natAbs_eq_zero.mp h0]; exact signed_zero _
  · have k : signed (sgn (val64 x)) ((zv x).natAbs * one64) = zv x * (one64 : Int) := by rw [signed_mul, ← zv_sgn]
    rw [ha] at k
    have k2 : signed (sgn (val64 V) != sgn (val64 y)) ((zv V).natAbs * (zv y).natAbs) = zv V * zv y := by rw [signed_xor, ← zv_sgn, ← zv_sgn]
    have e := xor_back (signed_inj (n := (zv V).natAbs * (zv y).natAbs) (Nat.mul_ne_zero h0 (fun q => hz (Int.natAbs_eq_zero.mp q))) (k.trans (h.trans k2.symm)))
    rw [e, ← zv_sgn]
theorem Ra.div {i j r : Int} {D E F k : Nat} {x y : UInt64} (hx : Ra i D x) (hy : Ra j E y) (hD : 0 < D) (hE : 0 < E) (hj : j ≠ 0) (hr : r.natAbs < 9007199254740992) (hF : F = 2 ^ k) (hk : k ≤ 1000) (h : i * (E : Int) * (F : Int) = r * (j * (D : Int))) : Ra r F (FP.ddiv x y) := by
  obtain ⟨V, hV⟩ := rep hr hF hk
  have hF0 : (F : Int) ≠ 0 := by rw [hF]; exact Int.ne_of_gt (Int.natCast_pos.mpr (Nat.two_pow_pos k))
  have hy0 : zv y ≠ 0 := fun q => by
    have := hy.2; rw [q, Int.zero_mul] at this
    exact (Int.mul_ne_zero hj (Int.ne_of_gt oz)) this.symm
  have hs : zv x * (one64 : Int) = zv V * zv y := by
    exact mulc (c := (D : Int)) (by omega) (mulc (c := (E : Int)) (by omega) (mulc hF0 (al_div hx.2 hy.2 hV.2 h)))
  have hz : zv (Core.ddiv x y) = zv V := div_zv hx.1 hy.1 hy0 hV.1 hs
  have hyz : ¬ DZero y := fun q => hy0 (by unfold zv; exact DZero.zval q)
  exact ⟨fin_of ((notNaN_iff _).mp (ddiv_out hx.1.notNaN hy.1 hyz)) hV.1 hz, by show zv (Core.ddiv x y) * _ = _; rw [hz, hV.2]⟩
/-- two quotients of one ratio are of one worth -/
theorem div_alike {x y x' y' : UInt64} (hx : DFin x) (hy : DFin y) (hx' : DFin x') (hy' : DFin y') (hz : zv y ≠ 0) (hz' : zv y' ≠ 0) (h : zv x * zv y' = zv x' * zv y) : zv (Core.ddiv x y) = zv (Core.ddiv x' y') := by
  have ha : (zv x).natAbs * (zv y').natAbs = (zv x').natAbs * (zv y).natAbs := by
    have := congrArg Int.natAbs h
    rwa [Int.natAbs_mul, Int.natAbs_mul] at this
  have hsg := div_sgn hx hy hz
  have hsg' := div_sgn hx' hy' hz'
  obtain ⟨s, t, c, d, q, r, ex, ey, hd, hq, hr, mx, my, hv⟩ := div_parts hx hy hz
  obtain ⟨s', t', c', d', q', r', ex', ey', hd', hq', hr', mx', my', hv'⟩ := div_parts hx' hy' hz'
  have hm : (zv (Core.ddiv x y)).natAbs = (zv (Core.ddiv x' y')).natAbs := by
    rw [zv_abs, zv_abs, zv_abs, zv_abs, mx, my, mx', my'] at ha
    rw [zv_abs, zv_abs, hv, hv']
    have e : roundRatio b64 (s != t) c d (q - r) = roundRatio b64 (s != t) c' d' (q' - r') := by
      refine roundRatio_congr hd hd' ?_
      have g1 : ∃ T, (q - b64.qmin).toNat + (r' - b64.qmin).toNat = (q - r - (q' - r')).toNat + T ∧ (q' - b64.qmin).toNat + (r - b64.qmin).toNat = (q' - r' - (q - r)).toNat + T := ⟨(min ((q - b64.qmin) + (r' - b64.qmin)) ((q' - b64.qmin) + (r - b64.qmin))).toNat, by omega, by omega⟩
      obtain ⟨T, g1, g2⟩ := g1
      refine Nat.eq_of_mul_eq_mul_right (Nat.two_pow_pos T) ?_
      calc c * d' * 2 ^ (q - r - (q' - r')).toNat * 2 ^ T = (c * 2 ^ (q - b64.qmin).toNat) * (d' * 2 ^ (r' - b64.qmin).toNat) := by rw [Nat.mul_assoc, ← Nat.pow_add, ← g1, Nat.pow_add]; ac_rfl
        _ = (c' * 2 ^ (q' - b64.qmin).toNat) * (d * 2 ^ (r - b64.qmin).toNat) := ha
        _ = c' * d * 2 ^ (q' - r' - (q - r)).toNat * 2 ^ T := by rw [Nat.mul_assoc (c' * d), ← Nat.pow_add, ← g2, Nat.pow_add]; ac_rfl
    rw [e]
    rcases roundRatio_cases b64 (s != t) c' d' (q' - r') with ⟨a, b, g⟩ | g <;> rcases roundRatio_cases b64 (s' != t') c' d' (q' - r') with ⟨a', b', g'⟩ | g'
    all_goals first
      | (have := negate_roundRatio b64 (s' != t') c' d' (q' - r')
         by_cases w : (s != t) = (s' != t')
         · rw [w]
         · rw [show (s != t) = !(s' != t') by cases s <;> cases t <;> cases s' <;> cases t' <;> simp_all, ← this]
           rw [g']; rfl)
  rw [zv_sgn (Core.ddiv x y), zv_sgn (Core.ddiv x' y'), hm, hsg, hsg']
  by_cases h0 : (zv (Core.ddiv x' y')).natAbs = 0
  · rw [h0, signed_zero, signed_zero]
  · by_cases hx0 : (zv x').natAbs = 0
    · exfalso; apply h0
      have := div_mag_le (V := (0 : UInt64)) hx' hy' hz' (by rw [val64_zero]; exact Datum.noConfusion) (by rw [hx0, Nat.zero_mul]; exact Nat.zero_le _)
      have z0 : zv 0 = 0 := zval64_zero
      rw [z0] at this; simpa using this
    · congr 1
      have hy1 : (zv y).natAbs ≠ 0 := fun q => hz (Int.natAbs_eq_zero.mp q)
      have k : signed (sgn (val64 x) != sgn (val64 y')) ((zv x').natAbs * (zv y).natAbs) = signed (sgn (val64 x') != sgn (val64 y)) ((zv x').natAbs * (zv y).natAbs) := by
        rw [← ha, signed_xor, ha, signed_xor, ← zv_sgn, ← zv_sgn, ← zv_sgn, ← zv_sgn]; exact h
      have k2 := signed_inj (Nat.mul_ne_zero hx0 hy1) k
      revert k2
      generalize sgn (val64 x) = a; generalize sgn (val64 y) = b; generalize sgn (val64 x') = a'; generalize sgn (val64 y') = b'
      cases a <;> cases b <;> cases a' <;> cases b' <;> simp
/-- comparisons -/
theorem cv_lt {x y : UInt64} (nx : val64 x ≠ .nan) (ny : val64 y ≠ .nan) (h : zv x < zv y) (o : Jvm.ClassFile.CmpOp) : Jvm.Op.cmpValue (FP.dcmp x y) o = -1 := by
  rw [show FP.dcmp x y = some .lt from dcmp_lt.mpr ⟨nx, ny, h⟩]; cases o <;> rfl
theorem cv_eq {x y : UInt64} (nx : val64 x ≠ .nan) (ny : val64 y ≠ .nan) (h : zv x = zv y) (o : Jvm.ClassFile.CmpOp) : Jvm.Op.cmpValue (FP.dcmp x y) o = 0 := by
  rw [show FP.dcmp x y = some .eq from dcmp_eq.mpr ⟨nx, ny, h⟩]; cases o <;> rfl
theorem cv_gt {x y : UInt64} (nx : val64 x ≠ .nan) (ny : val64 y ≠ .nan) (h : zv y < zv x) (o : Jvm.ClassFile.CmpOp) : Jvm.Op.cmpValue (FP.dcmp x y) o = 1 := by
  rw [show FP.dcmp x y = some .gt from dcmp_gt.mpr ⟨nx, ny, h⟩]; cases o <;> rfl
theorem cv_le {x y : UInt64} (nx : val64 x ≠ .nan) (ny : val64 y ≠ .nan) (h : zv x ≤ zv y) (o : Jvm.ClassFile.CmpOp) : ¬ (0 : Int32) < Jvm.Op.cmpValue (FP.dcmp x y) o := by
  rcases Int.lt_or_eq_of_le h with q | q
  · rw [cv_lt nx ny q]; decide
  · rw [cv_eq nx ny q]; decide
theorem cv_ge {x y : UInt64} (nx : val64 x ≠ .nan) (ny : val64 y ≠ .nan) (h : zv y ≤ zv x) (o : Jvm.ClassFile.CmpOp) : ¬ Jvm.Op.cmpValue (FP.dcmp x y) o < (0 : Int32) := by
  rcases Int.lt_or_eq_of_le h with q | q
  · rw [cv_gt nx ny q]; decide
  · rw [cv_eq nx ny q.symm]; decide
theorem cv_lt' {x y : UInt64} (nx : val64 x ≠ .nan) (ny : val64 y ≠ .nan) (h : zv x < zv y) (o : Jvm.ClassFile.CmpOp) : Jvm.Op.cmpValue (FP.dcmp x y) o < (0 : Int32) := by rw [cv_lt nx ny h]; decide
theorem cv_gt' {x y : UInt64} (nx : val64 x ≠ .nan) (ny : val64 y ≠ .nan) (h : zv y < zv x) (o : Jvm.ClassFile.CmpOp) : (0 : Int32) < Jvm.Op.cmpValue (FP.dcmp x y) o := by rw [cv_gt nx ny h]; decide
theorem zv_lt {i j : Int} {D : Nat} {x y : UInt64} (hx : Ra i D x) (hy : Ra j D y) (hD : 0 < D) (h : i < j) : zv x < zv y := by
  refine Int.lt_of_mul_lt_mul_right (a := (D : Int)) ?_ (by omega)
  rw [hx.2, hy.2]; exact Int.mul_lt_mul_of_pos_right h oz
theorem zv_eq {i j : Int} {D : Nat} {x y : UInt64} (hx : Ra i D x) (hy : Ra j D y) (hD : 0 < D) (h : i = j) : zv x = zv y :=
  mulc (c := (D : Int)) (by omega) (by rw [hx.2, hy.2, h])
theorem Ra.lt {i j : Int} {D : Nat} {x y : UInt64} (hx : Ra i D x) (hy : Ra j D y) (hD : 0 < D) (h : i < j) (o : Jvm.ClassFile.CmpOp) : Jvm.Op.cmpValue (FP.dcmp x y) o = -1 := cv_lt hx.ne_nan hy.ne_nan (zv_lt hx hy hD h) o
theorem Ra.gt {i j : Int} {D : Nat} {x y : UInt64} (hx : Ra i D x) (hy : Ra j D y) (hD : 0 < D) (h : j < i) (o : Jvm.ClassFile.CmpOp) : Jvm.Op.cmpValue (FP.dcmp x y) o = 1 := cv_gt hx.ne_nan hy.ne_nan (zv_lt hy hx hD h) o
theorem Ra.eq {i j : Int} {D : Nat} {x y : UInt64} (hx : Ra i D x) (hy : Ra j D y) (hD : 0 < D) (h : i = j) (o : Jvm.ClassFile.CmpOp) : Jvm.Op.cmpValue (FP.dcmp x y) o = 0 := cv_eq hx.ne_nan hy.ne_nan (zv_eq hx hy hD h) o
theorem zv_le {i j : Int} {D : Nat} {x y : UInt64} (hx : Ra i D x) (hy : Ra j D y) (hD : 0 < D) (h : i ≤ j) : zv x ≤ zv y := by
  rcases Int.lt_or_eq_of_le h with q | q
  · exact Int.le_of_lt (zv_lt hx hy hD q)
  · exact Int.le_of_eq (zv_eq hx hy hD q)
theorem Ra.le {i j : Int} {D : Nat} {x y : UInt64} (hx : Ra i D x) (hy : Ra j D y) (hD : 0 < D) (h : i ≤ j) (o : Jvm.ClassFile.CmpOp) : ¬ (0 : Int32) < Jvm.Op.cmpValue (FP.dcmp x y) o := cv_le hx.ne_nan hy.ne_nan (zv_le hx hy hD h) o
theorem Ra.ge {i j : Int} {D : Nat} {x y : UInt64} (hx : Ra i D x) (hy : Ra j D y) (hD : 0 < D) (h : j ≤ i) (o : Jvm.ClassFile.CmpOp) : ¬ Jvm.Op.cmpValue (FP.dcmp x y) o < (0 : Int32) := cv_ge hx.ne_nan hy.ne_nan (zv_le hy hx hD h) o
theorem Ra.lt' {i j : Int} {D : Nat} {x y : UInt64} (hx : Ra i D x) (hy : Ra j D y) (hD : 0 < D) (h : i < j) (o : Jvm.ClassFile.CmpOp) : Jvm.Op.cmpValue (FP.dcmp x y) o < (0 : Int32) := cv_lt' hx.ne_nan hy.ne_nan (zv_lt hx hy hD h) o
theorem Ra.gt' {i j : Int} {D : Nat} {x y : UInt64} (hx : Ra i D x) (hy : Ra j D y) (hD : 0 < D) (h : j < i) (o : Jvm.ClassFile.CmpOp) : (0 : Int32) < Jvm.Op.cmpValue (FP.dcmp x y) o := cv_gt' hx.ne_nan hy.ne_nan (zv_lt hy hx hD h) o
theorem Ra.of_int {i : Int} {x : UInt64} (h : DInt i x) (hf : DFin x) : Ra i 1 x := ⟨hf, by show zval b64 (val64 x) * _ = _; rw [DInt_zval h]; show _ * (1 : Int) = _; rw [Int.mul_one]⟩
theorem Ra.i2d (a : Int32) : Ra a.toInt 1 (FP.i2d a) := Ra.of_int (i2d_int a) (Core.i2d_fin a)
theorem Ra.l2d {a : Int64} (h : a.toInt.natAbs ≤ 9007199254740992) : Ra a.toInt 1 (FP.l2d a) := Ra.of_int (l2d_int h) (Core.l2d_fin a)
/-- a written constant -/
theorem Ra.lit {x : UInt64} {s : Bool} {c D n : Nat} {q i : Int} {k : Nat} (h : val64 x = .fin s c q) (hD : D = 2 ^ k) (hq : q = -((k + n : Nat) : Int)) (hk : k + n ≤ 1074) (e : signed s c = i * ((2 ^ n : Nat) : Int)) : Ra i D x := by
  refine ⟨⟨s, c, q, h⟩, ?_⟩
  unfold zv
  rw [h]
  show signed s (inUnits c q b64.qmin) * _ = _
  unfold inUnits
  have e2 : n + (q - b64.qmin).toNat + k = 1074 := by rw [qmin_b64]; omega
  rw [signed_mul, e, hD, Int.mul_assoc, Int.mul_assoc, ← Int.natCast_mul, ← Int.natCast_mul, ← Nat.pow_add, ← Nat.pow_add, ← Nat.add_assoc, e2]
  rfl
theorem zv_neg (x : UInt64) : zv (FP.dneg x) = -zv x := by unfold zv; rw [Jvm.FP.val64_dneg, zval_negate]
theorem Ra.neg {i : Int} {D : Nat} {x : UInt64} (h : Ra i D x) : Ra (-i) D (FP.dneg x) := by
  obtain ⟨⟨s, c, q, ex⟩, e⟩ := h
  exact ⟨⟨!s, c, q, by rw [Jvm.FP.val64_dneg, ex]; rfl⟩, by rw [zv_neg, Int.neg_mul, e, Int.neg_mul]⟩
/-- exact products of longs -/
theorem lmul_of {x y : Int64} {a b : Int} (hx : x.toInt = a) (hy : y.toInt = b) (h1 : -9223372036854775808 ≤ a * b) (h2 : a * b < 9223372036854775808) : (x * y).toInt = a * b := by
  rw [int64_mul (by rw [hx, hy]; exact h1) (by rw [hx, hy]; exact h2), hx, hy]
theorem ladd_of {x y : Int64} {a b : Int} (hx : x.toInt = a) (hy : y.toInt = b) (h1 : -9223372036854775808 ≤ a + b) (h2 : a + b < 9223372036854775808) : (x + y).toInt = a + b := by
  rw [int64_add (by rw [hx, hy]; exact h1) (by rw [hx, hy]; exact h2), hx, hy]
theorem lsub_of {x y : Int64} {a b : Int} (hx : x.toInt = a) (hy : y.toInt = b) (h1 : -9223372036854775808 ≤ a - b) (h2 : a - b < 9223372036854775808) : (x - y).toInt = a - b := by
  rw [int64_sub (by rw [hx, hy]; exact h1) (by rw [hx, hy]; exact h2), hx, hy]
theorem lneg_of {x : Int64} {a : Int} (hx : x.toInt = a) (h1 : -9223372036854775808 < a) : (-x).toInt = -a := by
  rw [int64_neg (by rw [hx]; exact h1), hx]
theorem i2l_of {x : Int32} {a : Int} (hx : x.toInt = a) : x.toInt64.toInt = a := by rw [Int32.toInt_toInt64, hx]
theorem fin_of_le {x V : UInt64} (hn : val64 x ≠ .nan) (hV : DFin V) (h : (zv x).natAbs ≤ (zv V).natAbs) : DFin x := by
  cases hx : val64 x with
  | nan => exact absurd hx hn
  | fin s c q => exact ⟨s, c, q, hx⟩
  | inf s =>
    exfalso
    have h1 := hV.zval_lt
    rw [zv_abs, zv_abs, hx] at h
    exact absurd (Nat.lt_of_le_of_lt h h1) (Nat.lt_irrefl _)
/-- a bound on the worth bounds the bits -/
theorem mag_of {x : UInt64} {n : Nat} (hx : DFin x) (h : (zv x).natAbs ≤ 2 ^ n * one64) : Mag64 (n + 1024) x := by
  have z := zmag_bits hx.ne_nan
  rw [zv_abs, z] at h
  have hs : unitsOf b64 ((n + 1024) * b64.tails) = b64.tails * 2 ^ (n + 1024 - 1) := unitsOf_start (by omega)
  have ho : 2 ^ n * one64 < b64.tails * 2 ^ (n + 1024 - 1) := by
    rw [tails_b64, ← pow_qmin64, ← Nat.pow_add, ← Nat.pow_add, qmin_b64]
    exact Nat.pow_lt_pow_right (by decide) (by omega)
  have hl : unitsOf b64 (x.toNat % 2 ^ 63) < unitsOf b64 ((n + 1024) * b64.tails) := by rw [hs]; exact Nat.lt_of_le_of_lt h ho
  have hb := unitsOf_lt_iff.mp hl
  rw [tails_b64] at hb
  unfold Mag64
  exact hb
theorem Ra.mag {i : Int} {D n : Nat} {x : UInt64} (h : Ra i D x) (hD : 0 < D) (hi : i.natAbs ≤ 2 ^ n * D) : Mag64 (n + 1024) x := by
  refine mag_of h.1 (Nat.le_of_mul_le_mul_right (c := D) ?_ hD)
  have e := congrArg Int.natAbs h.2
  rw [Int.natAbs_mul, Int.natAbs_mul, Int.natAbs_natCast, Int.natAbs_natCast] at e
  rw [e]
  exact al_mag hi
theorem ra_zero : Ra 0 1 (0 : UInt64) := ⟨⟨_, _, _, val64_zero⟩, by rw [show zv 0 = 0 from zval64_zero, Int.zero_mul, Int.zero_mul]⟩
theorem ra_one : Ra 1 1 (4607182418800017408 : UInt64) := Ra.lit (s := false) (c := 4503599627370496) (q := -52) (k := 0) (n := 52) (by decide +kernel) rfl (by decide) (by decide) (by decide)
theorem ra_two : Ra 2 1 (4611686018427387904 : UInt64) := Ra.lit (s := false) (c := 4503599627370496) (q := -51) (k := 0) (n := 51) (by decide +kernel) rfl (by decide) (by decide) (by decide)
end Jvm.OwnFP
namespace Jvm.Pilot.@@N@@
open Jvm Jvm.ClassFile Sem Op Lib Jvm.Free Jvm.Stand Jvm.LawKit Jvm.RoadKit Bundle Jvm.Pilot.@@N@@.Jvm.D
theorem d1_0 : decode jdk_29_method_69_code 0 = .ok (.iload_n 0, 1) := by decide +kernel
theorem d1_1 : decode jdk_29_method_69_code 1 = .ok (.iload_n 1, 1) := by decide +kernel
theorem d1_2 : decode jdk_29_method_69_code 2 = .ok (.if_icmp .gt 7, 3) := by decide +kernel
theorem d1_9 : decode jdk_29_method_69_code 9 = .ok (.iload_n 1, 1) := by decide +kernel
theorem d1_10 : decode jdk_29_method_69_code 10 = .ok (.ireturn, 1) := by decide +kernel
theorem ef_1_II (m : MethodId) (x0 : Int32) (x1 : Int32) : entryFrame m #[(.int x0), (.int x1)] 2 = mkF m 0 #[.val (.int x0), .val (.int x1)] [] := by first | (simp [entryFrame, mkF, argsToLocals, Value.category]; done) | rfl
def Q_rm1B (Z : State) (q0 : Int32) (q1 : Int32) (h0 : Heap) (n0 : Nat) (v : Option Value) (h : Heap) (L : List Loc) : Prop := v = some (.int q1) ∧ Fr n0 L ∧ h = h0
set_option maxRecDepth 65536 in
set_option maxHeartbeats 40000000 in
theorem rm1B (l : Launch) (Z : State) (a0 : Array Value) (hw : ∀ d ∈ tables_1, d.before a0 Z = true) (ws : List Jvm.Cond) (q0 : Int32) (q1 : Int32) (h0 : Heap) (n0 : Nat) (Z0 : n0 ≤ h0.size) (hc2 : q1 < q0) :
    MetFree l (⟨"java/lang/Math", "min", "(II)I"⟩ : MethodName) (head1 (Jvm.Cond.code (⟨"java/lang/Math", "min", "(II)I"⟩ : MethodName) jdk_29_method_69_code 2 (some .int) :: ws) ({ frames := 0, cells := 0, slots := 0, locals := 0 } : Room)) (fun a U => a = #[(.int q0), (.int q1)] ∧ Z.Warmed39 U.vm ∧ U.heap = h0) (fun _ _ _ _ _ => True) (fun _ U o U' => ∃ v L, o = .returned v ∧ Q_rm1B Z q0 q1 h0 n0 v U'.heap L ∧ FrameEnd U o U' L ({ frames := 0, cells := 0, slots := 0, locals := 0 } : Room).cells ({ frames := 0, cells := 0, slots := 0, locals := 0 } : Room).slots) := by
  refine MetFree.of_bodySF (Jvm.Free.JP.mathPlain rfl (by decide +kernel)) hisR ?_
  intro p e s m args below meth c s₁ Bd hml0 hP hK
  obtain ⟨rfl, hZ, hh⟩ := hP
  have hx := Bd.exec
  have hby := Bd.bytes
  have hml : c.maxLocals = 2 := hml0
  have hown : s.vm.findClass "java/lang/Math" = some m.cls := findClass_of_methodNamed Bd.named
  have hnm := (name_of_methodNamed Bd.named Bd.method).1
  have X0 : Stand p l e ({ frames := 0, cells := 0, slots := 0, locals := 0 } : Room) s m #[(.int q0), (.int q1)] below meth c s₁ [] 0 0 := Stand.of_body Bd
  have e0 : s₁.heap = h0 := by rw [← hh, Bd.state]; rfl
  have N0 := Fr.nil n0
  have pre0 : ∀ t, Steps p.tables e below (s₁.setTop (mkF m 0 #[.val (.int q0), .val (.int q1)] [])) t → Steps p.tables e below (s₁.setTop (entryFrame m #[(.int q0), (.int q1)] 2)) t := fun t k => castTop (ef_1_II m q0 q1) k
  obtain ⟨fs, hr, hrun, hended, hW, hsame⟩ := X0.leave (v := some (.int q1)) (fun h => by rw [Bd.returns] at h; cases h)
  refine ⟨_, _, pre0 _ ?_, hrun, hended, _, _, rfl, ?_, ⟨_, rfl⟩, hW, hsame.mono (by decide) (by decide)⟩
  · show Steps p.tables e below (s₁.setTop (mkF m 0 #[.val (.int q0), .val (.int q1)] [])) _
    refine XS.iloadN X0.here hx rfl (hb hby d1_0) rfl ?_
    show Steps p.tables e below (s₁.setTop (mkF m 1 #[.val (.int q0), .val (.int q1)] [(.int q0)])) _
    refine XS.iloadN X0.here hx rfl (hb hby d1_1) rfl ?_
    show Steps p.tables e below (s₁.setTop (mkF m 2 #[.val (.int q0), .val (.int q1)] [(.int q1), (.int q0)])) _
    refine XS.icmpYes X0.here hx rfl (pc0 := 2) (pc' := 9) rfl (hb hby d1_2) rfl (tlt hc2).2.2.1 (by decide) (by decide) ?_
    show Steps p.tables e below (s₁.setTop (mkF m 9 #[.val (.int q0), .val (.int q1)] [])) _
    refine XS.iloadN X0.here hx rfl (hb hby d1_9) rfl ?_
    show Steps p.tables e below (s₁.setTop (mkF m 10 #[.val (.int q0), .val (.int q1)] [(.int q1)])) _
    exact retOut X0 hx Bd.returns rfl (Or.inl ⟨rfl, Or.inl rfl, _, rfl⟩) (hb hby d1_10) hr
  · show Q_rm1B Z q0 q1 h0 n0 _ s₁.heap _
    rw [e0]
    exact ⟨rfl, N0, rfl⟩
theorem d1_5 : decode jdk_29_method_69_code 5 = .ok (.iload_n 0, 1) := by decide +kernel
theorem d1_6 : decode jdk_29_method_69_code 6 = .ok (.goto 4, 3) := by decide +kernel
def Q_rm1A (Z : State) (q0 : Int32) (q1 : Int32) (h0 : Heap) (n0 : Nat) (v : Option Value) (h : Heap) (L : List Loc) : Prop := v = some (.int q0) ∧ Fr n0 L ∧ h = h0
set_option maxRecDepth 65536 in
set_option maxHeartbeats 40000000 in
theorem rm1A (l : Launch) (Z : State) (a0 : Array Value) (hw : ∀ d ∈ tables_1, d.before a0 Z = true) (ws : List Jvm.Cond) (q0 : Int32) (q1 : Int32) (h0 : Heap) (n0 : Nat) (Z0 : n0 ≤ h0.size) (hc2 : ¬ (q1 < q0)) :
    MetFree l (⟨"java/lang/Math", "min", "(II)I"⟩ : MethodName) (head1 (Jvm.Cond.code (⟨"java/lang/Math", "min", "(II)I"⟩ : MethodName) jdk_29_method_69_code 2 (some .int) :: ws) ({ frames := 0, cells := 0, slots := 0, locals := 0 } : Room)) (fun a U => a = #[(.int q0), (.int q1)] ∧ Z.Warmed39 U.vm ∧ U.heap = h0) (fun _ _ _ _ _ => True) (fun _ U o U' => ∃ v L, o = .returned v ∧ Q_rm1A Z q0 q1 h0 n0 v U'.heap L ∧ FrameEnd U o U' L ({ frames := 0, cells := 0, slots := 0, locals := 0 } : Room).cells ({ frames := 0, cells := 0, slots := 0, locals := 0 } : Room).slots) := by
  refine MetFree.of_bodySF (Jvm.Free.JP.mathPlain rfl (by decide +kernel)) hisR ?_
  intro p e s m args below meth c s₁ Bd hml0 hP hK
  obtain ⟨rfl, hZ, hh⟩ := hP
  have hx := Bd.exec
  have hby := Bd.bytes
  have hml : c.maxLocals = 2 := hml0
  have hown : s.vm.findClass "java/lang/Math" = some m.cls := findClass_of_methodNamed Bd.named
  have hnm := (name_of_methodNamed Bd.named Bd.method).1
  have X0 : Stand p l e ({ frames := 0, cells := 0, slots := 0, locals := 0 } : Room) s m #[(.int q0), (.int q1)] below meth c s₁ [] 0 0 := Stand.of_body Bd
  have e0 : s₁.heap = h0 := by rw [← hh, Bd.state]; rfl
  have N0 := Fr.nil n0
  have pre0 : ∀ t, Steps p.tables e below (s₁.setTop (mkF m 0 #[.val (.int q0), .val (.int q1)] [])) t → Steps p.tables e below (s₁.setTop (entryFrame m #[(.int q0), (.int q1)] 2)) t := fun t k => castTop (ef_1_II m q0 q1) k
  obtain ⟨fs, hr, hrun, hended, hW, hsame⟩ := X0.leave (v := some (.int q0)) (fun h => by rw [Bd.returns] at h; cases h)
  refine ⟨_, _, pre0 _ ?_, hrun, hended, _, _, rfl, ?_, ⟨_, rfl⟩, hW, hsame.mono (by decide) (by decide)⟩
  · show Steps p.tables e below (s₁.setTop (mkF m 0 #[.val (.int q0), .val (.int q1)] [])) _
    refine XS.iloadN X0.here hx rfl (hb hby d1_0) rfl ?_
    show Steps p.tables e below (s₁.setTop (mkF m 1 #[.val (.int q0), .val (.int q1)] [(.int q0)])) _
    refine XS.iloadN X0.here hx rfl (hb hby d1_1) rfl ?_
    show Steps p.tables e below (s₁.setTop (mkF m 2 #[.val (.int q0), .val (.int q1)] [(.int q1), (.int q0)])) _
    refine XS.icmpNo X0.here hx rfl (hb hby d1_2) rfl (flt hc2).2.2.1 ?_
    show Steps p.tables e below (s₁.setTop (mkF m 5 #[.val (.int q0), .val (.int q1)] [])) _
    refine XS.iloadN X0.here hx rfl (hb hby d1_5) rfl ?_
    show Steps p.tables e below (s₁.setTop (mkF m 6 #[.val (.int q0), .val (.int q1)] [(.int q0)])) _
    refine XS.goto X0.here hx rfl (pc0 := 6) (pc' := 10) rfl (hb hby d1_6) (by decide) (by decide) ?_
    show Steps p.tables e below (s₁.setTop (mkF m 10 #[.val (.int q0), .val (.int q1)] [(.int q0)])) _
    exact retOut X0 hx Bd.returns rfl (Or.inl ⟨rfl, Or.inl rfl, _, rfl⟩) (hb hby d1_10) hr
  · show Q_rm1A Z q0 q1 h0 n0 _ s₁.heap _
    rw [e0]
    exact ⟨rfl, N0, rfl⟩
def Q_rm1M (Z : State) (q0 : Int32) (q1 : Int32) (r : Int32) (h0 : Heap) (n0 : Nat) (v : Option Value) (h : Heap) (L : List Loc) : Prop := v = some (.int r) ∧ Fr n0 L ∧ h = h0
theorem rm1M (l : Launch) (Z : State) (a0 : Array Value) (hw : ∀ d ∈ tables_1, d.before a0 Z = true) (ws : List Jvm.Cond) (q0 : Int32) (q1 : Int32) (r : Int32) (h0 : Heap) (n0 : Nat) (Z0 : n0 ≤ h0.size) (hr_r : (if q1 < q0 then q1 else q0) = r) :
    MetFree l (⟨"java/lang/Math", "min", "(II)I"⟩ : MethodName) (head1 (Jvm.Cond.code (⟨"java/lang/Math", "min", "(II)I"⟩ : MethodName) jdk_29_method_69_code 2 (some .int) :: ws) ({ frames := 0, cells := 0, slots := 0, locals := 0 } : Room)) (fun a U => a = #[(.int q0), (.int q1)] ∧ Z.Warmed39 U.vm ∧ U.heap = h0) (fun _ _ _ _ _ => True) (fun _ U o U' => ∃ v L, o = .returned v ∧ Q_rm1M Z q0 q1 r h0 n0 v U'.heap L ∧ FrameEnd U o U' L ({ frames := 0, cells := 0, slots := 0, locals := 0 } : Room).cells ({ frames := 0, cells := 0, slots := 0, locals := 0 } : Room).slots) := by
  by_cases hq : q1 < q0
  · rw [if_pos hq] at hr_r; subst hr_r
    exact rm1B l Z a0 hw ws q0 q1 h0 n0 Z0  (hc2 := hq)
  · rw [if_neg hq] at hr_r; subst hr_r
    exact rm1A l Z a0 hw ws q0 q1 h0 n0 Z0  (hc2 := hq)
theorem d2_0 : decode jdk_29_method_65_code 0 = .ok (.iload_n 0, 1) := by decide +kernel
theorem d2_1 : decode jdk_29_method_65_code 1 = .ok (.iload_n 1, 1) := by decide +kernel
theorem d2_2 : decode jdk_29_method_65_code 2 = .ok (.if_icmp .lt 7, 3) := by decide +kernel
theorem d2_9 : decode jdk_29_method_65_code 9 = .ok (.iload_n 1, 1) := by decide +kernel
theorem d2_10 : decode jdk_29_method_65_code 10 = .ok (.ireturn, 1) := by decide +kernel
theorem ef_2_II (m : MethodId) (x0 : Int32) (x1 : Int32) : entryFrame m #[(.int x0), (.int x1)] 2 = mkF m 0 #[.val (.int x0), .val (.int x1)] [] := by first | (simp [entryFrame, mkF, argsToLocals, Value.category]; done) | rfl
def Q_rm2B (Z : State) (q0 : Int32) (q1 : Int32) (h0 : Heap) (n0 : Nat) (v : Option Value) (h : Heap) (L : List Loc) : Prop := v = some (.int q1) ∧ Fr n0 L ∧ h = h0
set_option maxRecDepth 65536 in
set_option maxHeartbeats 40000000 in
theorem rm2B (l : Launch) (Z : State) (a0 : Array Value) (hw : ∀ d ∈ tables_1, d.before a0 Z = true) (ws : List Jvm.Cond) (q0 : Int32) (q1 : Int32) (h0 : Heap) (n0 : Nat) (Z0 : n0 ≤ h0.size) (hc2 : q0 < q1) :
    MetFree l (⟨"java/lang/Math", "max", "(II)I"⟩ : MethodName) (head1 (Jvm.Cond.code (⟨"java/lang/Math", "max", "(II)I"⟩ : MethodName) jdk_29_method_65_code 2 (some .int) :: ws) ({ frames := 0, cells := 0, slots := 0, locals := 0 } : Room)) (fun a U => a = #[(.int q0), (.int q1)] ∧ Z.Warmed39 U.vm ∧ U.heap = h0) (fun _ _ _ _ _ => True) (fun _ U o U' => ∃ v L, o = .returned v ∧ Q_rm2B Z q0 q1 h0 n0 v U'.heap L ∧ FrameEnd U o U' L ({ frames := 0, cells := 0, slots := 0, locals := 0 } : Room).cells ({ frames := 0, cells := 0, slots := 0, locals := 0 } : Room).slots) := by
  refine MetFree.of_bodySF (Jvm.Free.JP.mathPlain rfl (by decide +kernel)) hisR ?_
  intro p e s m args below meth c s₁ Bd hml0 hP hK
  obtain ⟨rfl, hZ, hh⟩ := hP
  have hx := Bd.exec
  have hby := Bd.bytes
  have hml : c.maxLocals = 2 := hml0
  have hown : s.vm.findClass "java/lang/Math" = some m.cls := findClass_of_methodNamed Bd.named
  have hnm := (name_of_methodNamed Bd.named Bd.method).1
  have X0 : Stand p l e ({ frames := 0, cells := 0, slots := 0, locals := 0 } : Room) s m #[(.int q0), (.int q1)] below meth c s₁ [] 0 0 := Stand.of_body Bd
  have e0 : s₁.heap = h0 := by rw [← hh, Bd.state]; rfl
  have N0 := Fr.nil n0
  have pre0 : ∀ t, Steps p.tables e below (s₁.setTop (mkF m 0 #[.val (.int q0), .val (.int q1)] [])) t → Steps p.tables e below (s₁.setTop (entryFrame m #[(.int q0), (.int q1)] 2)) t := fun t k => castTop (ef_2_II m q0 q1) k
  obtain ⟨fs, hr, hrun, hended, hW, hsame⟩ := X0.leave (v := some (.int q1)) (fun h => by rw [Bd.returns] at h; cases h)
  refine ⟨_, _, pre0 _ ?_, hrun, hended, _, _, rfl, ?_, ⟨_, rfl⟩, hW, hsame.mono (by decide) (by decide)⟩
  · show Steps p.tables e below (s₁.setTop (mkF m 0 #[.val (.int q0), .val (.int q1)] [])) _
    refine XS.iloadN X0.here hx rfl (hb hby d2_0) rfl ?_
    show Steps p.tables e below (s₁.setTop (mkF m 1 #[.val (.int q0), .val (.int q1)] [(.int q0)])) _
    refine XS.iloadN X0.here hx rfl (hb hby d2_1) rfl ?_
    show Steps p.tables e below (s₁.setTop (mkF m 2 #[.val (.int q0), .val (.int q1)] [(.int q1), (.int q0)])) _
    refine XS.icmpYes X0.here hx rfl (pc0 := 2) (pc' := 9) rfl (hb hby d2_2) rfl (tlt hc2).1 (by decide) (by decide) ?_
    show Steps p.tables e below (s₁.setTop (mkF m 9 #[.val (.int q0), .val (.int q1)] [])) _
    refine XS.iloadN X0.here hx rfl (hb hby d2_9) rfl ?_
    show Steps p.tables e below (s₁.setTop (mkF m 10 #[.val (.int q0), .val (.int q1)] [(.int q1)])) _
    exact retOut X0 hx Bd.returns rfl (Or.inl ⟨rfl, Or.inl rfl, _, rfl⟩) (hb hby d2_10) hr
  · show Q_rm2B Z q0 q1 h0 n0 _ s₁.heap _
    rw [e0]
    exact ⟨rfl, N0, rfl⟩
theorem d2_5 : decode jdk_29_method_65_code 5 = .ok (.iload_n 0, 1) := by decide +kernel
theorem d2_6 : decode jdk_29_method_65_code 6 = .ok (.goto 4, 3) := by decide +kernel
def Q_rm2A (Z : State) (q0 : Int32) (q1 : Int32) (h0 : Heap) (n0 : Nat) (v : Option Value) (h : Heap) (L : List Loc) : Prop := v = some (.int q0) ∧ Fr n0 L ∧ h = h0
set_option maxRecDepth 65536 in
set_option maxHeartbeats 40000000 in
theorem rm2A (l : Launch) (Z : State) (a0 : Array Value) (hw : ∀ d ∈ tables_1, d.before a0 Z = true) (ws : List Jvm.Cond) (q0 : Int32) (q1 : Int32) (h0 : Heap) (n0 : Nat) (Z0 : n0 ≤ h0.size) (hc2 : ¬ (q0 < q1)) :
    MetFree l (⟨"java/lang/Math", "max", "(II)I"⟩ : MethodName) (head1 (Jvm.Cond.code (⟨"java/lang/Math", "max", "(II)I"⟩ : MethodName) jdk_29_method_65_code 2 (some .int) :: ws) ({ frames := 0, cells := 0, slots := 0, locals := 0 } : Room)) (fun a U => a = #[(.int q0), (.int q1)] ∧ Z.Warmed39 U.vm ∧ U.heap = h0) (fun _ _ _ _ _ => True) (fun _ U o U' => ∃ v L, o = .returned v ∧ Q_rm2A Z q0 q1 h0 n0 v U'.heap L ∧ FrameEnd U o U' L ({ frames := 0, cells := 0, slots := 0, locals := 0 } : Room).cells ({ frames := 0, cells := 0, slots := 0, locals := 0 } : Room).slots) := by
  refine MetFree.of_bodySF (Jvm.Free.JP.mathPlain rfl (by decide +kernel)) hisR ?_
  intro p e s m args below meth c s₁ Bd hml0 hP hK
  obtain ⟨rfl, hZ, hh⟩ := hP
  have hx := Bd.exec
  have hby := Bd.bytes
  have hml : c.maxLocals = 2 := hml0
  have hown : s.vm.findClass "java/lang/Math" = some m.cls := findClass_of_methodNamed Bd.named
  have hnm := (name_of_methodNamed Bd.named Bd.method).1
  have X0 : Stand p l e ({ frames := 0, cells := 0, slots := 0, locals := 0 } : Room) s m #[(.int q0), (.int q1)] below meth c s₁ [] 0 0 := Stand.of_body Bd
  have e0 : s₁.heap = h0 := by rw [← hh, Bd.state]; rfl
  have N0 := Fr.nil n0
  have pre0 : ∀ t, Steps p.tables e below (s₁.setTop (mkF m 0 #[.val (.int q0), .val (.int q1)] [])) t → Steps p.tables e below (s₁.setTop (entryFrame m #[(.int q0), (.int q1)] 2)) t := fun t k => castTop (ef_2_II m q0 q1) k
  obtain ⟨fs, hr, hrun, hended, hW, hsame⟩ := X0.leave (v := some (.int q0)) (fun h => by rw [Bd.returns] at h; cases h)
  refine ⟨_, _, pre0 _ ?_, hrun, hended, _, _, rfl, ?_, ⟨_, rfl⟩, hW, hsame.mono (by decide) (by decide)⟩
  · show Steps p.tables e below (s₁.setTop (mkF m 0 #[.val (.int q0), .val (.int q1)] [])) _
    refine XS.iloadN X0.here hx rfl (hb hby d2_0) rfl ?_
    show Steps p.tables e below (s₁.setTop (mkF m 1 #[.val (.int q0), .val (.int q1)] [(.int q0)])) _
    refine XS.iloadN X0.here hx rfl (hb hby d2_1) rfl ?_
    show Steps p.tables e below (s₁.setTop (mkF m 2 #[.val (.int q0), .val (.int q1)] [(.int q1), (.int q0)])) _
    refine XS.icmpNo X0.here hx rfl (hb hby d2_2) rfl (flt hc2).1 ?_
    show Steps p.tables e below (s₁.setTop (mkF m 5 #[.val (.int q0), .val (.int q1)] [])) _
    refine XS.iloadN X0.here hx rfl (hb hby d2_5) rfl ?_
    show Steps p.tables e below (s₁.setTop (mkF m 6 #[.val (.int q0), .val (.int q1)] [(.int q0)])) _
    refine XS.goto X0.here hx rfl (pc0 := 6) (pc' := 10) rfl (hb hby d2_6) (by decide) (by decide) ?_
    show Steps p.tables e below (s₁.setTop (mkF m 10 #[.val (.int q0), .val (.int q1)] [(.int q0)])) _
    exact retOut X0 hx Bd.returns rfl (Or.inl ⟨rfl, Or.inl rfl, _, rfl⟩) (hb hby d2_10) hr
  · show Q_rm2A Z q0 q1 h0 n0 _ s₁.heap _
    rw [e0]
    exact ⟨rfl, N0, rfl⟩
def Q_rm2M (Z : State) (q0 : Int32) (q1 : Int32) (r : Int32) (h0 : Heap) (n0 : Nat) (v : Option Value) (h : Heap) (L : List Loc) : Prop := v = some (.int r) ∧ Fr n0 L ∧ h = h0
theorem rm2M (l : Launch) (Z : State) (a0 : Array Value) (hw : ∀ d ∈ tables_1, d.before a0 Z = true) (ws : List Jvm.Cond) (q0 : Int32) (q1 : Int32) (r : Int32) (h0 : Heap) (n0 : Nat) (Z0 : n0 ≤ h0.size) (hr_r : (if q0 < q1 then q1 else q0) = r) :
    MetFree l (⟨"java/lang/Math", "max", "(II)I"⟩ : MethodName) (head1 (Jvm.Cond.code (⟨"java/lang/Math", "max", "(II)I"⟩ : MethodName) jdk_29_method_65_code 2 (some .int) :: ws) ({ frames := 0, cells := 0, slots := 0, locals := 0 } : Room)) (fun a U => a = #[(.int q0), (.int q1)] ∧ Z.Warmed39 U.vm ∧ U.heap = h0) (fun _ _ _ _ _ => True) (fun _ U o U' => ∃ v L, o = .returned v ∧ Q_rm2M Z q0 q1 r h0 n0 v U'.heap L ∧ FrameEnd U o U' L ({ frames := 0, cells := 0, slots := 0, locals := 0 } : Room).cells ({ frames := 0, cells := 0, slots := 0, locals := 0 } : Room).slots) := by
  by_cases hq : q0 < q1
  · rw [if_pos hq] at hr_r; subst hr_r
    exact rm2B l Z a0 hw ws q0 q1 h0 n0 Z0  (hc2 := hq)
  · rw [if_neg hq] at hr_r; subst hr_r
    exact rm2A l Z a0 hw ws q0 q1 h0 n0 Z0  (hc2 := hq)
theorem d4_0 : decode prog_32_method_2_code 0 = .ok (.aload_n 0, 1) := by decide +kernel
theorem d4_1 : decode prog_32_method_2_code 1 = .ok (.invokespecial 9, 3) := by decide +kernel
theorem d4_4 : decode prog_32_method_2_code 4 = .ok (.aload_n 0, 1) := by decide +kernel
theorem d4_5 : decode prog_32_method_2_code 5 = .ok (.aload_n 1, 1) := by decide +kernel
theorem d4_6 : decode prog_32_method_2_code 6 = .ok (.putfield 14, 3) := by decide +kernel
theorem so_ValueBounds_upper_lower {Z : State} {a0 : Array Value} (hw : ∀ d ∈ tables_1, d.before a0 Z = true) : Jvm.RoadKit.slotOf Z "com/example/hedge/hedge/ValueBounds" "upper" "[D" ≠ Jvm.RoadKit.slotOf Z "com/example/hedge/hedge/ValueBounds" "lower" "[D" := slot_ne (Or.inr (hw _ (List.mem_of_getElem? (i := 29) rfl))) (Or.inr (hw _ (List.mem_of_getElem? (i := 27) rfl))) (by decide) (t := (.array .double)) (t' := (.array .double)) (by decide) (by decide)
theorem so_ValueBounds_strategy_lower {Z : State} {a0 : Array Value} (hw : ∀ d ∈ tables_1, d.before a0 Z = true) : Jvm.RoadKit.slotOf Z "com/example/hedge/hedge/ValueBounds" "strategy" "[[I" ≠ Jvm.RoadKit.slotOf Z "com/example/hedge/hedge/ValueBounds" "lower" "[D" := slot_ne (Or.inr (hw _ (List.mem_of_getElem? (i := 31) rfl))) (Or.inr (hw _ (List.mem_of_getElem? (i := 27) rfl))) (by decide) (t := (.array (.array .int))) (t' := (.array .double)) (by decide) (by decide)
theorem d4_9 : decode prog_32_method_2_code 9 = .ok (.aload_n 0, 1) := by decide +kernel
theorem d4_10 : decode prog_32_method_2_code 10 = .ok (.aload_n 2, 1) := by decide +kernel
theorem d4_11 : decode prog_32_method_2_code 11 = .ok (.putfield 18, 3) := by decide +kernel
theorem so_ValueBounds_lower_upper {Z : State} {a0 : Array Value} (hw : ∀ d ∈ tables_1, d.before a0 Z = true) : Jvm.RoadKit.slotOf Z "com/example/hedge/hedge/ValueBounds" "lower" "[D" ≠ Jvm.RoadKit.slotOf Z "com/example/hedge/hedge/ValueBounds" "upper" "[D" := slot_ne (Or.inr (hw _ (List.mem_of_getElem? (i := 27) rfl))) (Or.inr (hw _ (List.mem_of_getElem? (i := 29) rfl))) (by decide) (t := (.array .double)) (t' := (.array .double)) (by decide) (by decide)
theorem so_ValueBounds_strategy_upper {Z : State} {a0 : Array Value} (hw : ∀ d ∈ tables_1, d.before a0 Z = true) : Jvm.RoadKit.slotOf Z "com/example/hedge/hedge/ValueBounds" "strategy" "[[I" ≠ Jvm.RoadKit.slotOf Z "com/example/hedge/hedge/ValueBounds" "upper" "[D" := slot_ne (Or.inr (hw _ (List.mem_of_getElem? (i := 31) rfl))) (Or.inr (hw _ (List.mem_of_getElem? (i := 29) rfl))) (by decide) (t := (.array (.array .int))) (t' := (.array .double)) (by decide) (by decide)
theorem d4_14 : decode prog_32_method_2_code 14 = .ok (.aload_n 0, 1) := by decide +kernel
theorem d4_15 : decode prog_32_method_2_code 15 = .ok (.aload_n 3, 1) := by decide +kernel
theorem d4_16 : decode prog_32_method_2_code 16 = .ok (.putfield 21, 3) := by decide +kernel
theorem so_ValueBounds_lower_strategy {Z : State} {a0 : Array Value} (hw : ∀ d ∈ tables_1, d.before a0 Z = true) : Jvm.RoadKit.slotOf Z "com/example/hedge/hedge/ValueBounds" "lower" "[D" ≠ Jvm.RoadKit.slotOf Z "com/example/hedge/hedge/ValueBounds" "strategy" "[[I" := slot_ne (Or.inr (hw _ (List.mem_of_getElem? (i := 27) rfl))) (Or.inr (hw _ (List.mem_of_getElem? (i := 31) rfl))) (by decide) (t := (.array .double)) (t' := (.array (.array .int))) (by decide) (by decide)
theorem so_ValueBounds_upper_strategy {Z : State} {a0 : Array Value} (hw : ∀ d ∈ tables_1, d.before a0 Z = true) : Jvm.RoadKit.slotOf Z "com/example/hedge/hedge/ValueBounds" "upper" "[D" ≠ Jvm.RoadKit.slotOf Z "com/example/hedge/hedge/ValueBounds" "strategy" "[[I" := slot_ne (Or.inr (hw _ (List.mem_of_getElem? (i := 29) rfl))) (Or.inr (hw _ (List.mem_of_getElem? (i := 31) rfl))) (by decide) (t := (.array .double)) (t' := (.array (.array .int))) (by decide) (by decide)
theorem d4_19 : decode prog_32_method_2_code 19 = .ok (.return_, 1) := by decide +kernel
theorem pn_com_example_hedge_hedge_ValueBounds : plainName "com/example/hedge/hedge/ValueBounds" = true := by first | (simp [plainName, overriddenIn]; done) | decide +kernel
theorem ef_4_RRRR (m : MethodId) (x0 : Addr) (x1 : Addr) (x2 : Addr) (x3 : Addr) : entryFrame m #[(.ref x0), (.ref x1), (.ref x2), (.ref x3)] 4 = mkF m 0 #[.val (.ref x0), .val (.ref x1), .val (.ref x2), .val (.ref x3)] [] := by first | (simp [entryFrame, mkF, argsToLocals, Value.category]; done) | rfl
def Q_rm4 (Z : State) (t0 : Addr) (s0 : Addr) (s1 : Addr) (s2 : Addr) (h0 : Heap) (n0 : Nat) (v : Option Value) (h : Heap) (L : List Loc) : Prop := v = none ∧ Fr n0 L ∧ Keep h0 h [t0] ∧ Exa Z h t0 "com/example/hedge/hedge/ValueBounds" ∧ Fld Z h t0 "com/example/hedge/hedge/ValueBounds" "lower" "[D" (.ref s0) ∧ Fld Z h t0 "com/example/hedge/hedge/ValueBounds" "upper" "[D" (.ref s1)
set_option maxRecDepth 65536 in
set_option maxHeartbeats 40000000 in
theorem rm4 (l : Launch) (Z : State) (a0 : Array Value) (hw : ∀ d ∈ tables_1, d.before a0 Z = true) (ws : List Jvm.Cond) (t0 : Addr) (s0 : Addr) (s1 : Addr) (s2 : Addr) (h0 : Heap) (n0 : Nat) (Z0 : n0 ≤ h0.size) (E_t0 : Exa Z h0 t0 "com/example/hedge/hedge/ValueBounds") (g_t0 : n0 ≤ t0) (F_lower_t0 : Fld Z h0 t0 "com/example/hedge/hedge/ValueBounds" "lower" "[D" .null) (F_upper_t0 : Fld Z h0 t0 "com/example/hedge/hedge/ValueBounds" "upper" "[D" .null) (F_strategy_t0 : Fld Z h0 t0 "com/example/hedge/hedge/ValueBounds" "strategy" "[[I" .null) :
    MetFree l (⟨"com/example/hedge/hedge/ValueBounds", "<init>", "([D[D[[I)V"⟩ : MethodName) (head1 (Jvm.Cond.code (⟨"com/example/hedge/hedge/ValueBounds", "<init>", "([D[D[[I)V"⟩ : MethodName) prog_32_method_2_code 4 none :: ws) ({ frames := 1, cells := 0, slots := 0, locals := 12 } : Room)) (fun a U => a = #[(.ref t0), (.ref s0), (.ref s1), (.ref s2)] ∧ Z.Warmed39 U.vm ∧ U.heap = h0) (fun _ _ _ _ _ => True) (fun _ U o U' => ∃ v L, o = .returned v ∧ Q_rm4 Z t0 s0 s1 s2 h0 n0 v U'.heap L ∧ FrameEnd U o U' L ({ frames := 1, cells := 0, slots := 0, locals := 12 } : Room).cells ({ frames := 1, cells := 0, slots := 0, locals := 12 } : Room).slots) := by
  refine MetFree.of_bodySF (plainFor_of_name pn_com_example_hedge_hedge_ValueBounds) hisR ?_
  intro p e s m args below meth c s₁ Bd hml0 hP hK
  obtain ⟨rfl, hZ, hh⟩ := hP
  have hx := Bd.exec
  have hby := Bd.bytes
  have hml : c.maxLocals = 4 := hml0
  have hown : s.vm.findClass "com/example/hedge/hedge/ValueBounds" = some m.cls := findClass_of_methodNamed Bd.named
  have hnm := (name_of_methodNamed Bd.named Bd.method).1
  have X0 : Stand p l e ({ frames := 1, cells := 0, slots := 0, locals := 12 } : Room) s m #[(.ref t0), (.ref s0), (.ref s1), (.ref s2)] below meth c s₁ [] 0 0 := Stand.of_body Bd
  have e0 : s₁.heap = h0 := by rw [← hh, Bd.state]; rfl
  have N0 := Fr.nil n0
  have pre0 : ∀ t, Steps p.tables e below (s₁.setTop (mkF m 0 #[.val (.ref t0), .val (.ref s0), .val (.ref s1), .val (.ref s2)] [])) t → Steps p.tables e below (s₁.setTop (entryFrame m #[(.ref t0), (.ref s0), (.ref s1), (.ref s2)] 4)) t := fun t k => castTop (ef_4_RRRR m t0 s0 s1 s2) k
  obtain ⟨T1, X1, e1, st1⟩ := initO X0 hx hZ hown (hw _ (List.mem_of_getElem? (i := 23) rfl)) (hw _ (List.mem_of_getElem? (i := 24) rfl)) (hw _ (List.mem_of_getElem? (i := 25) rfl)) e0 (g := (mkF m 1 #[.val (.ref t0), .val (.ref s0), .val (.ref s1), .val (.ref s2)] [(.ref t0)])) rfl (by rw [hml]; rfl) rfl (hb hby d4_1) (by decide) (W := 0) (by show 2 * 0 + _ ≤ _; exact Nat.le_of_eq rfl) (by decide)
  obtain ⟨T2, h2, X2, e2, W2, st2⟩ := putF X1 hx hZ hown (host := "") (Or.inl (hw _ (List.mem_of_getElem? (i := 26) rfl))) Via.refl e1 F_lower_t0 E_t0 (Or.inr ⟨(hw _ (List.mem_of_getElem? (i := 27) rfl)), rfl, hnm⟩) (hw _ (List.mem_of_getElem? (i := 11) rfl)) (ty := (.array .double)) (by decide) rfl rfl (g := (mkF m 6 #[.val (.ref t0), .val (.ref s0), .val (.ref s1), .val (.ref s2)] [(.ref s0), (.ref t0)])) rfl rfl (hb hby d4_6)
  have f3 := E_t0.wr W2
  have f4 := F_upper_t0.other W2 (Or.inr (so_ValueBounds_upper_lower hw))
  have f5 := F_strategy_t0.other W2 (Or.inr (so_ValueBounds_strategy_lower hw))
  have K2 : Keep h0 h2 [t0] := (Keep.refl h0 [t0]).wr W2 (Or.inl (List.mem_of_getElem? (i := 0) rfl))
  have Zs2 := Nat.le_trans Z0 (Keep.of_wr W2).1
  have N2 := Fr.snoc X2 N0 g_t0
  have f6 : Fld Z h2 t0 "com/example/hedge/hedge/ValueBounds" "lower" "[D" (.ref s0) := F_lower_t0.same W2
  obtain ⟨T7, h7, X7, e7, W7, st7⟩ := putF X2 hx hZ hown (host := "") (Or.inl (hw _ (List.mem_of_getElem? (i := 28) rfl))) Via.refl e2 f4 f3 (Or.inr ⟨(hw _ (List.mem_of_getElem? (i := 29) rfl)), rfl, hnm⟩) (hw _ (List.mem_of_getElem? (i := 11) rfl)) (ty := (.array .double)) (by decide) rfl rfl (g := (mkF m 11 #[.val (.ref t0), .val (.ref s0), .val (.ref s1), .val (.ref s2)] [(.ref s1), (.ref t0)])) rfl rfl (hb hby d4_11)
  have f8 := f3.wr W7
  have f9 := f6.other W7 (Or.inr (so_ValueBounds_lower_upper hw))
  have f10 := f5.other W7 (Or.inr (so_ValueBounds_strategy_upper hw))
  have K7 : Keep h0 h7 [t0] := K2.wr W7 (Or.inl (List.mem_of_getElem? (i := 0) rfl))
  have Zs7 := Nat.le_trans Zs2 (Keep.of_wr W7).1
  have N7 := Fr.snoc X7 N2 g_t0
  have f11 : Fld Z h7 t0 "com/example/hedge/hedge/ValueBounds" "upper" "[D" (.ref s1) := f4.same W7
  obtain ⟨T12, h12, X12, e12, W12, st12⟩ := putF X7 hx hZ hown (host := "") (Or.inl (hw _ (List.mem_of_getElem? (i := 30) rfl))) Via.refl e7 f10 f8 (Or.inr ⟨(hw _ (List.mem_of_getElem? (i := 31) rfl)), rfl, hnm⟩) (hw _ (List.mem_of_getElem? (i := 11) rfl)) (ty := (.array (.array .int))) (by decide) rfl rfl (g := (mkF m 16 #[.val (.ref t0), .val (.ref s0), .val (.ref s1), .val (.ref s2)] [(.ref s2), (.ref t0)])) rfl rfl (hb hby d4_16)
  have f13 := f8.wr W12
  have f14 := f9.other W12 (Or.inr (so_ValueBounds_lower_strategy hw))
  have f15 := f11.other W12 (Or.inr (so_ValueBounds_upper_strategy hw))
  have K12 : Keep h0 h12 [t0] := K7.wr W12 (Or.inl (List.mem_of_getElem? (i := 0) rfl))
  have Zs12 := Nat.le_trans Zs7 (Keep.of_wr W12).1
  have N12 := Fr.snoc X12 N7 g_t0
  have f16 : Fld Z h12 t0 "com/example/hedge/hedge/ValueBounds" "strategy" "[[I" (.ref s2) := f10.same W12
  obtain ⟨fs, hr, hrun, hended, hW, hsame⟩ := X12.leave (v := none) (fun _ => rfl)
  refine ⟨_, _, pre0 _ ?_, hrun, hended, _, _, rfl, ?_, ⟨_, rfl⟩, hW, hsame.mono (by decide) (by decide)⟩
  · show Steps p.tables e below (s₁.setTop (mkF m 0 #[.val (.ref t0), .val (.ref s0), .val (.ref s1), .val (.ref s2)] [])) _
    refine XS.aloadN X0.here hx rfl (hb hby d4_0) rfl rfl ?_
    show Steps p.tables e below (s₁.setTop (mkF m 1 #[.val (.ref t0), .val (.ref s0), .val (.ref s1), .val (.ref s2)] [(.ref t0)])) _
    refine st1 _ ?_
    show Steps p.tables e below (T1.setTop (mkF m 4 #[.val (.ref t0), .val (.ref s0), .val (.ref s1), .val (.ref s2)] [])) _
    refine XS.aloadN X1.here hx rfl (hb hby d4_4) rfl rfl ?_
    show Steps p.tables e below (T1.setTop (mkF m 5 #[.val (.ref t0), .val (.ref s0), .val (.ref s1), .val (.ref s2)] [(.ref t0)])) _
    refine XS.aloadN X1.here hx rfl (hb hby d4_5) rfl rfl ?_
    show Steps p.tables e below (T1.setTop (mkF m 6 #[.val (.ref t0), .val (.ref s0), .val (.ref s1), .val (.ref s2)] [(.ref s0), (.ref t0)])) _
    refine st2 _ ?_
    show Steps p.tables e below (T2.setTop (mkF m 9 #[.val (.ref t0), .val (.ref s0), .val (.ref s1), .val (.ref s2)] [])) _
    refine XS.aloadN X2.here hx rfl (hb hby d4_9) rfl rfl ?_
    show Steps p.tables e below (T2.setTop (mkF m 10 #[.val (.ref t0), .val (.ref s0), .val (.ref s1), .val (.ref s2)] [(.ref t0)])) _
    refine XS.aloadN X2.here hx rfl (hb hby d4_10) rfl rfl ?_
    show Steps p.tables e below (T2.setTop (mkF m 11 #[.val (.ref t0), .val (.ref s0), .val (.ref s1), .val (.ref s2)] [(.ref s1), (.ref t0)])) _
    refine st7 _ ?_
    show Steps p.tables e below (T7.setTop (mkF m 14 #[.val (.ref t0), .val (.ref s0), .val (.ref s1), .val (.ref s2)] [])) _
    refine XS.aloadN X7.here hx rfl (hb hby d4_14) rfl rfl ?_
    show Steps p.tables e below (T7.setTop (mkF m 15 #[.val (.ref t0), .val (.ref s0), .val (.ref s1), .val (.ref s2)] [(.ref t0)])) _
    refine XS.aloadN X7.here hx rfl (hb hby d4_15) rfl rfl ?_
    show Steps p.tables e below (T7.setTop (mkF m 16 #[.val (.ref t0), .val (.ref s0), .val (.ref s1), .val (.ref s2)] [(.ref s2), (.ref t0)])) _
    refine st12 _ ?_
    show Steps p.tables e below (T12.setTop (mkF m 19 #[.val (.ref t0), .val (.ref s0), .val (.ref s1), .val (.ref s2)] [])) _
    exact X12.returnOut hx Bd.returns (hb hby d4_19) hr
  · show Q_rm4 Z t0 s0 s1 s2 h0 n0 _ T12.heap _
    rw [e12]
    exact ⟨rfl, N12, K12, f13, f14, f15⟩
theorem d3_0 : decode prog_32_method_1_code 0 = .ok (.aload_n 0, 1) := by decide +kernel
theorem d3_1 : decode prog_32_method_1_code 1 = .ok (.aload_n 1, 1) := by decide +kernel
theorem d3_2 : decode prog_32_method_1_code 2 = .ok (.aload_n 2, 1) := by decide +kernel
theorem d3_3 : decode prog_32_method_1_code 3 = .ok (.iconst 1, 1) := by decide +kernel
theorem d3_4 : decode prog_32_method_1_code 4 = .ok (.anewarray 1, 3) := by decide +kernel
theorem d3_7 : decode prog_32_method_1_code 7 = .ok (.dup, 1) := by decide +kernel
theorem d3_8 : decode prog_32_method_1_code 8 = .ok (.iconst 0, 1) := by decide +kernel
theorem d3_9 : decode prog_32_method_1_code 9 = .ok (.aload_n 3, 1) := by decide +kernel
theorem d3_10 : decode prog_32_method_1_code 10 = .ok (.aastore, 1) := by decide +kernel
theorem d3_11 : decode prog_32_method_1_code 11 = .ok (.invokespecial 3, 3) := by decide +kernel
theorem pd_0 : parseMethodDescriptor "([D[D[[I)V" = some ⟨[(.array .double), (.array .double), (.array (.array .int))], none⟩ := by decide +kernel
theorem d3_14 : decode prog_32_method_1_code 14 = .ok (.return_, 1) := by decide +kernel
theorem ef_3_RRRR (m : MethodId) (x0 : Addr) (x1 : Addr) (x2 : Addr) (x3 : Addr) : entryFrame m #[(.ref x0), (.ref x1), (.ref x2), (.ref x3)] 4 = mkF m 0 #[.val (.ref x0), .val (.ref x1), .val (.ref x2), .val (.ref x3)] [] := by first | (simp [entryFrame, mkF, argsToLocals, Value.category]; done) | rfl
def Q_rm3 (Z : State) (t0 : Addr) (s0 : Addr) (s1 : Addr) (s2 : Addr) (h0 : Heap) (n0 : Nat) (v : Option Value) (h : Heap) (L : List Loc) : Prop := v = none ∧ Fr n0 L ∧ Keep h0 h [t0] ∧ Exa Z h t0 "com/example/hedge/hedge/ValueBounds" ∧ Fld Z h t0 "com/example/hedge/hedge/ValueBounds" "lower" "[D" (.ref s0) ∧ Fld Z h t0 "com/example/hedge/hedge/ValueBounds" "upper" "[D" (.ref s1)
set_option maxRecDepth 65536 in
set_option maxHeartbeats 40000000 in
theorem rm3 (l : Launch) (Z : State) (a0 : Array Value) (hw : ∀ d ∈ tables_1, d.before a0 Z = true) (ws : List Jvm.Cond) (t0 : Addr) (s0 : Addr) (s1 : Addr) (s2 : Addr) (h0 : Heap) (n0 : Nat) (Z0 : n0 ≤ h0.size) (E_t0 : Exa Z h0 t0 "com/example/hedge/hedge/ValueBounds") (g_t0 : n0 ≤ t0) (F_lower_t0 : Fld Z h0 t0 "com/example/hedge/hedge/ValueBounds" "lower" "[D" .null) (F_upper_t0 : Fld Z h0 t0 "com/example/hedge/hedge/ValueBounds" "upper" "[D" .null) (F_strategy_t0 : Fld Z h0 t0 "com/example/hedge/hedge/ValueBounds" "strategy" "[[I" .null) (E_s2 : Exa Z h0 s2 "[I") :
    MetFree l (⟨"com/example/hedge/hedge/ValueBounds", "<init>", "([D[D[I)V"⟩ : MethodName) (head1 (Jvm.Cond.code (⟨"com/example/hedge/hedge/ValueBounds", "<init>", "([D[D[I)V"⟩ : MethodName) prog_32_method_1_code 4 none :: ws) ({ frames := 2, cells := 1, slots := 1, locals := 27 } : Room)) (fun a U => a = #[(.ref t0), (.ref s0), (.ref s1), (.ref s2)] ∧ Z.Warmed39 U.vm ∧ U.heap = h0) (fun _ _ _ _ _ => True) (fun _ U o U' => ∃ v L, o = .returned v ∧ Q_rm3 Z t0 s0 s1 s2 h0 n0 v U'.heap L ∧ FrameEnd U o U' L ({ frames := 2, cells := 1, slots := 1, locals := 27 } : Room).cells ({ frames := 2, cells := 1, slots := 1, locals := 27 } : Room).slots) := by
  refine MetFree.of_bodySF (plainFor_of_name pn_com_example_hedge_hedge_ValueBounds) hisR ?_
  intro p e s m args below meth c s₁ Bd hml0 hP hK
  obtain ⟨rfl, hZ, hh⟩ := hP
  have hx := Bd.exec
  have hby := Bd.bytes
  have hml : c.maxLocals = 4 := hml0
  have hown : s.vm.findClass "com/example/hedge/hedge/ValueBounds" = some m.cls := findClass_of_methodNamed Bd.named
  have hnm := (name_of_methodNamed Bd.named Bd.method).1
  have X0 : Stand p l e ({ frames := 2, cells := 1, slots := 1, locals := 27 } : Room) s m #[(.ref t0), (.ref s0), (.ref s1), (.ref s2)] below meth c s₁ [] 0 0 := Stand.of_body Bd
  have e0 : s₁.heap = h0 := by rw [← hh, Bd.state]; rfl
  have N0 := Fr.nil n0
  have pre0 : ∀ t, Steps p.tables e below (s₁.setTop (mkF m 0 #[.val (.ref t0), .val (.ref s0), .val (.ref s1), .val (.ref s2)] [])) t → Steps p.tables e below (s₁.setTop (entryFrame m #[(.ref t0), (.ref s0), (.ref s1), (.ref s2)] 4)) t := fun t k => castTop (ef_3_RRRR m t0 s0 s1 s2) k
  obtain ⟨T1, h1, k1, X1, e1, E1, A1, B1, O1, st1⟩ := newRA X0 hx hZ hown (ty := .int) (C := "[I") rfl (hw _ (List.mem_of_getElem? (i := 17) rfl)) (hw _ (List.mem_of_getElem? (i := 18) rfl)) e0 (g := (mkF m 4 #[.val (.ref t0), .val (.ref s0), .val (.ref s1), .val (.ref s2)] [(.int (1 : Int32)), (.ref s1), (.ref s0), (.ref t0)])) rfl (hb hby d3_4) rfl (by decide) (cap := 1) (by decide) (by decide) (by decide) (by decide) (ad := "[[I") rfl
  obtain ⟨b1, g1⟩ : ∃ z, z = h0.size := ⟨_, rfl⟩
  rw [← g1] at A1 B1 st1
  have ne_t0_b1 : t0 ≠ b1 := Nat.ne_of_lt (Nat.lt_of_lt_of_le E_t0.lt (Nat.le_of_eq g1.symm))
  have ne_s2_b1 : s2 ≠ b1 := Nat.ne_of_lt (Nat.lt_of_lt_of_le E_s2.lt (Nat.le_of_eq g1.symm))
  have g_b1 : n0 ≤ b1 := Nat.le_trans Z0 (Nat.le_of_eq g1.symm)
  have sz_b1 : h0.size ≤ b1 := Nat.le_trans (Keep.refl h0 [t0]).1 (Nat.le_of_eq g1.symm)
  have f2 := E_t0.ext E1
  have f3 := F_lower_t0.ext E1
  have f4 := F_upper_t0.ext E1
  have f5 := F_strategy_t0.ext E1
  have f6 := E_s2.ext E1
  have K1 : Keep h0 h1 [t0] := (Keep.refl h0 [t0]).ext E1
  have Zs1 := Nat.le_trans Z0 E1.1
  have V1 : Arv Z h1 b1 k1 (.array .int) (1 : Int32) [.null] .null := (Arv.new A1 (by decide)).pad (pad_rep [] .null 1)
  obtain ⟨cq7, Arq7, qq7, Sq7, Nq7, Hq7, Gq7⟩ := id V1
  obtain ⟨T8, h8, X8, e8, W8, st8⟩ := stR X1 hx hZ e1 Arq7 (j := (0 : Int32)) (inb_of Sq7 ⟨by decide, by decide⟩) rfl (Sto.ofVA Arq7 qq7 O1 (Ins.self f6)) (g := (mkF m 10 #[.val (.ref t0), .val (.ref s0), .val (.ref s1), .val (.ref s2)] [(.ref s2), (.int (0 : Int32)), (.ref b1), (.ref b1), (.ref s1), (.ref s0), (.ref t0)])) rfl rfl (hb hby d3_10)
  have f9 := f2.wr W8
  have f10 := f3.other W8 (Or.inl ne_t0_b1)
  have f11 := f4.other W8 (Or.inl ne_t0_b1)
  have f12 := f5.other W8 (Or.inl ne_t0_b1)
  have f13 := f6.wr W8
  have K8 : Keep h0 h8 [t0] := K1.wr W8 (Or.inr sz_b1)
  have Zs8 := Nat.le_trans Zs1 (Keep.of_wr W8).1
  have N8 := Fr.snoc X8 N0 g_b1
  have f14 : Arv Z h8 b1 k1 (.array .int) (1 : Int32) [(.ref s2)] .null := Arv.set Arq7 qq7 Sq7 Nq7 Hq7 Gq7 rfl W8 0 rfl (Nat.le_of_ble_eq_true rfl)
  obtain ⟨_, _, ⟨T15, L15, k15, n15⟩, -, X15, ⟨Lc15, hQ15, l15, y15, z15⟩, st15⟩ := X8.specialBack hx (y := (⟨"com/example/hedge/hedge/ValueBounds", "<init>", "([D[D[[I)V"⟩ : MethodName)) rfl hown (mvT hZ (hw _ (List.mem_of_getElem? (i := 20) rfl))) (mvT hZ (hw _ (List.mem_of_getElem? (i := 21) rfl))) (mvT hZ (hw _ (List.mem_of_getElem? (i := 22) rfl))) (by decide) (backOf (W := 0) (rm4 l Z a0 hw [] t0 s0 s1 b1 h8 n0 Zs8 f9 g_t0 f10 f11 f12) hZ (hw _ (List.mem_of_getElem? (i := 22) rfl)) (hw _ (List.mem_of_getElem? (i := 12) rfl)) (by decide) (by decide)) (g := (mkF m 11 #[.val (.ref t0), .val (.ref s0), .val (.ref s1), .val (.ref s2)] [(.ref b1), (.ref s1), (.ref s0), (.ref t0)])) rfl (by rw [hml]; rfl) (Steps.refl _) (a := t0) (argsL := [(.ref s0), (.ref s1), (.ref b1)]) (rest := []) (lenOf pd_0 rfl) rfl (by show 2 * 0 + _ ≤ _; exact Nat.le_of_eq rfl) (hb hby d3_11) (fun _ _ => ⟨rfl, e8, (by decide : 1 + 0 ≤ _), (by decide : 1 + 0 ≤ _)⟩)
  dsimp only [Pt.U, Pt.locs, Pt.cells, Pt.slots] at X15 l15 y15 z15 st15 hQ15
  subst l15 y15 z15
  obtain ⟨rfl, N15q, K15q, f16, f17, f18⟩ := hQ15
  have N15 := Fr.app N8 N15q
  have f19 := f9.keep K15q
  have f20 := f13.keep K15q
  have f21 := f14.keep K15q (own_niS (Ne.symm ne_t0_b1) own_ni0)
  have K15 : Keep h0 T15.heap [t0] := K8.trans K15q (own_allS (Or.inl (List.mem_of_getElem? (i := 0) rfl)) own_all0)
  have Zs15 := Nat.le_trans Zs8 K15q.1
  obtain ⟨fs, hr, hrun, hended, hW, hsame⟩ := X15.leave (v := none) (fun _ => rfl)
  refine ⟨_, _, pre0 _ ?_, hrun, hended, _, _, rfl, ?_, ⟨_, rfl⟩, hW, hsame.mono (by decide) (by decide)⟩
  · show Steps p.tables e below (s₁.setTop (mkF m 0 #[.val (.ref t0), .val (.ref s0), .val (.ref s1), .val (.ref s2)] [])) _
    refine XS.aloadN X0.here hx rfl (hb hby d3_0) rfl rfl ?_
    show Steps p.tables e below (s₁.setTop (mkF m 1 #[.val (.ref t0), .val (.ref s0), .val (.ref s1), .val (.ref s2)] [(.ref t0)])) _
    refine XS.aloadN X0.here hx rfl (hb hby d3_1) rfl rfl ?_
    show Steps p.tables e below (s₁.setTop (mkF m 2 #[.val (.ref t0), .val (.ref s0), .val (.ref s1), .val (.ref s2)] [(.ref s0), (.ref t0)])) _
    refine XS.aloadN X0.here hx rfl (hb hby d3_2) rfl rfl ?_
    show Steps p.tables e below (s₁.setTop (mkF m 3 #[.val (.ref t0), .val (.ref s0), .val (.ref s1), .val (.ref s2)] [(.ref s1), (.ref s0), (.ref t0)])) _
    refine XS.iconst X0.here hx rfl (hb hby d3_3) ?_
    show Steps p.tables e below (s₁.setTop (mkF m 4 #[.val (.ref t0), .val (.ref s0), .val (.ref s1), .val (.ref s2)] [(.int (1 : Int32)), (.ref s1), (.ref s0), (.ref t0)])) _
    refine st1 _ ?_
    show Steps p.tables e below (T1.setTop (mkF m 7 #[.val (.ref t0), .val (.ref s0), .val (.ref s1), .val (.ref s2)] [(.ref b1), (.ref s1), (.ref s0), (.ref t0)])) _
    refine XS.dup X1.here hx rfl (hb hby d3_7) rfl rfl ?_
    show Steps p.tables e below (T1.setTop (mkF m 8 #[.val (.ref t0), .val (.ref s0), .val (.ref s1), .val (.ref s2)] [(.ref b1), (.ref b1), (.ref s1), (.ref s0), (.ref t0)])) _
    refine XS.iconst X1.here hx rfl (hb hby d3_8) ?_
    show Steps p.tables e below (T1.setTop (mkF m 9 #[.val (.ref t0), .val (.ref s0), .val (.ref s1), .val (.ref s2)] [(.int (0 : Int32)), (.ref b1), (.ref b1), (.ref s1), (.ref s0), (.ref t0)])) _
    refine XS.aloadN X1.here hx rfl (hb hby d3_9) rfl rfl ?_
    show Steps p.tables e below (T1.setTop (mkF m 10 #[.val (.ref t0), .val (.ref s0), .val (.ref s1), .val (.ref s2)] [(.ref s2), (.int (0 : Int32)), (.ref b1), (.ref b1), (.ref s1), (.ref s0), (.ref t0)])) _
    refine st8 _ ?_
    show Steps p.tables e below (T8.setTop (mkF m 11 #[.val (.ref t0), .val (.ref s0), .val (.ref s1), .val (.ref s2)] [(.ref b1), (.ref s1), (.ref s0), (.ref t0)])) _
    refine st15.trans ?_
    show Steps p.tables e below (T15.setTop (mkF m 14 #[.val (.ref t0), .val (.ref s0), .val (.ref s1), .val (.ref s2)] [])) _
    exact X15.returnOut hx Bd.returns (hb hby d3_14) hr
  · show Q_rm3 Z t0 s0 s1 s2 h0 n0 _ T15.heap _
    exact ⟨rfl, N15, K15, f16, f17, f18⟩
theorem d6_0 : decode prog_32_method_5_code 0 = .ok (.aload_n 0, 1) := by decide +kernel
theorem d6_1 : decode prog_32_method_5_code 1 = .ok (.getfield 18, 3) := by decide +kernel
theorem d6_4 : decode prog_32_method_5_code 4 = .ok (.iload_n 1, 1) := by decide +kernel
theorem d6_5 : decode prog_32_method_5_code 5 = .ok (.daload, 1) := by decide +kernel
theorem d6_6 : decode prog_32_method_5_code 6 = .ok (.ldc2_w 27, 3) := by decide +kernel
theorem d6_9 : decode prog_32_method_5_code 9 = .ok (.dcmp .l, 1) := by decide +kernel
theorem d6_10 : decode prog_32_method_5_code 10 = .ok (.ifCond .ne 10, 3) := by decide +kernel
theorem d6_13 : decode prog_32_method_5_code 13 = .ok (.aload_n 0, 1) := by decide +kernel
theorem d6_14 : decode prog_32_method_5_code 14 = .ok (.getfield 14, 3) := by decide +kernel
theorem d6_17 : decode prog_32_method_5_code 17 = .ok (.iload_n 1, 1) := by decide +kernel
theorem d6_18 : decode prog_32_method_5_code 18 = .ok (.daload, 1) := by decide +kernel
theorem d6_19 : decode prog_32_method_5_code 19 = .ok (.dreturn, 1) := by decide +kernel
theorem ef_6_Rl_0___Int32_ (m : MethodId) (x0 : Addr) : entryFrame m #[(.ref x0), (.int (0 : Int32))] 2 = mkF m 0 #[.val (.ref x0), .val (.int (0 : Int32))] [] := by first | (simp [entryFrame, mkF, argsToLocals, Value.category]; done) | rfl
def Q_rm6_0i (Z : State) (t0 : Addr) (s0 : Addr) (s1 : Addr) (k0 : ClassId) (k1 : ClassId) (x0 : UInt64) (x1 : UInt64) (y0 : UInt64) (y1 : UInt64) (h0 : Heap) (n0 : Nat) (v : Option Value) (h : Heap) (L : List Loc) : Prop := v = some (.double x0) ∧ Fr n0 L ∧ h = h0
set_option maxRecDepth 65536 in
set_option maxHeartbeats 40000000 in
theorem rm6_0i (l : Launch) (Z : State) (a0 : Array Value) (hw : ∀ d ∈ tables_1, d.before a0 Z = true) (ws : List Jvm.Cond) (t0 : Addr) (s0 : Addr) (s1 : Addr) (k0 : ClassId) (k1 : ClassId) (x0 : UInt64) (x1 : UInt64) (y0 : UInt64) (y1 : UInt64) (h0 : Heap) (n0 : Nat) (Z0 : n0 ≤ h0.size) (F_lower_t0 : Fld Z h0 t0 "com/example/hedge/hedge/ValueBounds" "lower" "[D" (.ref s0)) (F_upper_t0 : Fld Z h0 t0 "com/example/hedge/hedge/ValueBounds" "upper" "[D" (.ref s1)) (V_s0 : Arv Z h0 s0 k0 .double (2 : Int32) [(.double x0), (.double x1)] (.double (0 : UInt64))) (V_s1 : Arv Z h0 s1 k1 .double (2 : Int32) [(.double y0), (.double y1)] (.double (0 : UInt64))) (hd9 : (cmpValue (FP.dcmp y0 (9218868437227405312 : UInt64)) .l) = (0 : Int32)) :
    MetFree l (⟨"com/example/hedge/hedge/ValueBounds", "value", "(I)D"⟩ : MethodName) (head1 (Jvm.Cond.code (⟨"com/example/hedge/hedge/ValueBounds", "value", "(I)D"⟩ : MethodName) prog_32_method_5_code 2 (some .double) :: ws) ({ frames := 0, cells := 0, slots := 0, locals := 0 } : Room)) (fun a U => a = #[(.ref t0), (.int (0 : Int32))] ∧ Z.Warmed39 U.vm ∧ U.heap = h0) (fun _ _ _ _ _ => True) (fun _ U o U' => ∃ v L, o = .returned v ∧ Q_rm6_0i Z t0 s0 s1 k0 k1 x0 x1 y0 y1 h0 n0 v U'.heap L ∧ FrameEnd U o U' L ({ frames := 0, cells := 0, slots := 0, locals := 0 } : Room).cells ({ frames := 0, cells := 0, slots := 0, locals := 0 } : Room).slots) := by
  refine MetFree.of_bodySF (plainFor_of_name pn_com_example_hedge_hedge_ValueBounds) hisR ?_
  intro p e s m args below meth c s₁ Bd hml0 hP hK
  obtain ⟨rfl, hZ, hh⟩ := hP
  have hx := Bd.exec
  have hby := Bd.bytes
  have hml : c.maxLocals = 2 := hml0
  have hown : s.vm.findClass "com/example/hedge/hedge/ValueBounds" = some m.cls := findClass_of_methodNamed Bd.named
  have hnm := (name_of_methodNamed Bd.named Bd.method).1
  have X0 : Stand p l e ({ frames := 0, cells := 0, slots := 0, locals := 0 } : Room) s m #[(.ref t0), (.int (0 : Int32))] below meth c s₁ [] 0 0 := Stand.of_body Bd
  have e0 : s₁.heap = h0 := by rw [← hh, Bd.state]; rfl
  have N0 := Fr.nil n0
  have pre0 : ∀ t, Steps p.tables e below (s₁.setTop (mkF m 0 #[.val (.ref t0), .val (.int (0 : Int32))] [])) t → Steps p.tables e below (s₁.setTop (entryFrame m #[(.ref t0), (.int (0 : Int32))] 2)) t := fun t k => castTop (ef_6_Rl_0___Int32_ m t0) k
  obtain ⟨T1, X1, e1, st1⟩ := getF X0 hx hZ hown (host := "") (Or.inl (hw _ (List.mem_of_getElem? (i := 28) rfl))) Via.refl e0 F_upper_t0 (g := (mkF m 1 #[.val (.ref t0), .val (.int (0 : Int32))] [(.ref t0)])) rfl rfl (hb hby d6_1)
  obtain ⟨cq2, Arq2, -, Sq2, -, Hq2, -⟩ := id V_s1
  obtain ⟨T3, X3, e3, st3⟩ := getF X1 hx hZ hown (host := "") (Or.inl (hw _ (List.mem_of_getElem? (i := 26) rfl))) Via.refl e1 F_lower_t0 (g := (mkF m 14 #[.val (.ref t0), .val (.int (0 : Int32))] [(.ref t0)])) rfl rfl (hb hby d6_14)
  obtain ⟨cq4, Arq4, -, Sq4, -, Hq4, -⟩ := id V_s0
  obtain ⟨fs, hr, hrun, hended, hW, hsame⟩ := X3.leave (v := some (.double x0)) (fun h => by rw [Bd.returns] at h; cases h)
  refine ⟨_, _, pre0 _ ?_, hrun, hended, _, _, rfl, ?_, ⟨_, rfl⟩, hW, hsame.mono (by decide) (by decide)⟩
  · show Steps p.tables e below (s₁.setTop (mkF m 0 #[.val (.ref t0), .val (.int (0 : Int32))] [])) _
    refine XS.aloadN X0.here hx rfl (hb hby d6_0) rfl rfl ?_
    show Steps p.tables e below (s₁.setTop (mkF m 1 #[.val (.ref t0), .val (.int (0 : Int32))] [(.ref t0)])) _
    refine st1 _ ?_
    show Steps p.tables e below (T1.setTop (mkF m 4 #[.val (.ref t0), .val (.int (0 : Int32))] [(.ref s1)])) _
    refine XS.iloadN X1.here hx rfl (hb hby d6_4) rfl ?_
    show Steps p.tables e below (T1.setTop (mkF m 5 #[.val (.ref t0), .val (.int (0 : Int32))] [(.int (0 : Int32)), (.ref s1)])) _
    refine X1.daload hx (j := (0 : Int32)) (v := (.double y0)) (by rw [e1]; exact Arq2.1) (State.isArrayOf_alike hZ.alike Arq2.2.1) Arq2.2.2 (inb_of Sq2 ⟨by decide, by decide⟩) (Has.at Hq2 (inb_of Sq2 ⟨by decide, by decide⟩) rfl) (g := (mkF m 5 #[.val (.ref t0), .val (.int (0 : Int32))] [(.int (0 : Int32)), (.ref s1)])) rfl rfl (hb hby d6_5) _ ?_
    show Steps p.tables e below (T1.setTop (mkF m 6 #[.val (.ref t0), .val (.int (0 : Int32))] [(.double y0)])) _
    refine X1.ldc2DoubleC hx hown (mvT hZ (hw _ (List.mem_of_getElem? (i := 37) rfl))) (g := (mkF m 6 #[.val (.ref t0), .val (.int (0 : Int32))] [(.double y0)])) rfl (hb hby d6_6) _ ?_
    show Steps p.tables e below (T1.setTop (mkF m 9 #[.val (.ref t0), .val (.int (0 : Int32))] [(.double (9218868437227405312 : UInt64)), (.double y0)])) _
    refine XS.dcmpS X1.here hx rfl (hb hby d6_9) rfl (v := (0 : Int32)) hd9 ?_
    show Steps p.tables e below (T1.setTop (mkF m 10 #[.val (.ref t0), .val (.int (0 : Int32))] [(.int (0 : Int32))])) _
    refine XS.ifNo X1.here hx rfl (hb hby d6_10) rfl ((if0 _ _).trans (teq (by decide : (0 : Int32) = (0 : Int32))).2) ?_
    show Steps p.tables e below (T1.setTop (mkF m 13 #[.val (.ref t0), .val (.int (0 : Int32))] [])) _
    refine XS.aloadN X1.here hx rfl (hb hby d6_13) rfl rfl ?_
    show Steps p.tables e below (T1.setTop (mkF m 14 #[.val (.ref t0), .val (.int (0 : Int32))] [(.ref t0)])) _
    refine st3 _ ?_
    show Steps p.tables e below (T3.setTop (mkF m 17 #[.val (.ref t0), .val (.int (0 : Int32))] [(.ref s0)])) _
    refine XS.iloadN X3.here hx rfl (hb hby d6_17) rfl ?_
    show Steps p.tables e below (T3.setTop (mkF m 18 #[.val (.ref t0), .val (.int (0 : Int32))] [(.int (0 : Int32)), (.ref s0)])) _
    refine X3.daload hx (j := (0 : Int32)) (v := (.double x0)) (by rw [e3]; exact Arq4.1) (State.isArrayOf_alike hZ.alike Arq4.2.1) Arq4.2.2 (inb_of Sq4 ⟨by decide, by decide⟩) (Has.at Hq4 (inb_of Sq4 ⟨by decide, by decide⟩) rfl) (g := (mkF m 18 #[.val (.ref t0), .val (.int (0 : Int32))] [(.int (0 : Int32)), (.ref s0)])) rfl rfl (hb hby d6_18) _ ?_
    show Steps p.tables e below (T3.setTop (mkF m 19 #[.val (.ref t0), .val (.int (0 : Int32))] [(.double x0)])) _
    exact retOut X3 hx Bd.returns rfl (Or.inr (Or.inr (Or.inl ⟨rfl, rfl, _, rfl⟩))) (hb hby d6_19) hr
  · show Q_rm6_0i Z t0 s0 s1 k0 k1 x0 x1 y0 y1 h0 n0 _ T3.heap _
    rw [e3]
    exact ⟨rfl, N0, rfl⟩
theorem d6_20 : decode prog_32_method_5_code 20 = .ok (.aload_n 0, 1) := by decide +kernel
theorem d6_21 : decode prog_32_method_5_code 21 = .ok (.getfield 14, 3) := by decide +kernel
theorem d6_24 : decode prog_32_method_5_code 24 = .ok (.iload_n 1, 1) := by decide +kernel
theorem d6_25 : decode prog_32_method_5_code 25 = .ok (.daload, 1) := by decide +kernel
theorem d6_26 : decode prog_32_method_5_code 26 = .ok (.aload_n 0, 1) := by decide +kernel
theorem d6_27 : decode prog_32_method_5_code 27 = .ok (.getfield 18, 3) := by decide +kernel
theorem d6_30 : decode prog_32_method_5_code 30 = .ok (.iload_n 1, 1) := by decide +kernel
theorem d6_31 : decode prog_32_method_5_code 31 = .ok (.daload, 1) := by decide +kernel
theorem d6_32 : decode prog_32_method_5_code 32 = .ok (.dadd, 1) := by decide +kernel
theorem d6_33 : decode prog_32_method_5_code 33 = .ok (.ldc2_w 29, 3) := by decide +kernel
theorem d6_36 : decode prog_32_method_5_code 36 = .ok (.ddiv, 1) := by decide +kernel
theorem d6_37 : decode prog_32_method_5_code 37 = .ok (.dreturn, 1) := by decide +kernel
def Q_rm6_0f (Z : State) (t0 : Addr) (s0 : Addr) (s1 : Addr) (k0 : ClassId) (k1 : ClassId) (x0 : UInt64) (x1 : UInt64) (y0 : UInt64) (y1 : UInt64) (h0 : Heap) (n0 : Nat) (v : Option Value) (h : Heap) (L : List Loc) : Prop := v = some (.double (FP.ddiv (FP.dadd x0 y0) (4611686018427387904 : UInt64))) ∧ Fr n0 L ∧ h = h0
set_option maxRecDepth 65536 in
set_option maxHeartbeats 40000000 in
theorem rm6_0f (l : Launch) (Z : State) (a0 : Array Value) (hw : ∀ d ∈ tables_1, d.before a0 Z = true) (ws : List Jvm.Cond) (t0 : Addr) (s0 : Addr) (s1 : Addr) (k0 : ClassId) (k1 : ClassId) (x0 : UInt64) (x1 : UInt64) (y0 : UInt64) (y1 : UInt64) (h0 : Heap) (n0 : Nat) (Z0 : n0 ≤ h0.size) (F_lower_t0 : Fld Z h0 t0 "com/example/hedge/hedge/ValueBounds" "lower" "[D" (.ref s0)) (F_upper_t0 : Fld Z h0 t0 "com/example/hedge/hedge/ValueBounds" "upper" "[D" (.ref s1)) (V_s0 : Arv Z h0 s0 k0 .double (2 : Int32) [(.double x0), (.double x1)] (.double (0 : UInt64))) (V_s1 : Arv Z h0 s1 k1 .double (2 : Int32) [(.double y0), (.double y1)] (.double (0 : UInt64))) (hd9 : (cmpValue (FP.dcmp y0 (9218868437227405312 : UInt64)) .l) = (-1 : Int32)) (nn32 : Jvm.Free.Fl.NoNaN64 (FP.dadd x0 y0)) (nn36 : Jvm.Free.Fl.NoNaN64 (FP.ddiv (FP.dadd x0 y0) (4611686018427387904 : UInt64))) :
    MetFree l (⟨"com/example/hedge/hedge/ValueBounds", "value", "(I)D"⟩ : MethodName) (head1 (Jvm.Cond.code (⟨"com/example/hedge/hedge/ValueBounds", "value", "(I)D"⟩ : MethodName) prog_32_method_5_code 2 (some .double) :: ws) ({ frames := 0, cells := 0, slots := 0, locals := 0 } : Room)) (fun a U => a = #[(.ref t0), (.int (0 : Int32))] ∧ Z.Warmed39 U.vm ∧ U.heap = h0) (fun _ _ _ _ _ => True) (fun _ U o U' => ∃ v L, o = .returned v ∧ Q_rm6_0f Z t0 s0 s1 k0 k1 x0 x1 y0 y1 h0 n0 v U'.heap L ∧ FrameEnd U o U' L ({ frames := 0, cells := 0, slots := 0, locals := 0 } : Room).cells ({ frames := 0, cells := 0, slots := 0, locals := 0 } : Room).slots) := by
  refine MetFree.of_bodySF (plainFor_of_name pn_com_example_hedge_hedge_ValueBounds) hisR ?_
  intro p e s m args below meth c s₁ Bd hml0 hP hK
  obtain ⟨rfl, hZ, hh⟩ := hP
  have hx := Bd.exec
  have hby := Bd.bytes
  have hml : c.maxLocals = 2 := hml0
  have hown : s.vm.findClass "com/example/hedge/hedge/ValueBounds" = some m.cls := findClass_of_methodNamed Bd.named
  have hnm := (name_of_methodNamed Bd.named Bd.method).1
  have X0 : Stand p l e ({ frames := 0, cells := 0, slots := 0, locals := 0 } : Room) s m #[(.ref t0), (.int (0 : Int32))] below meth c s₁ [] 0 0 := Stand.of_body Bd
  have e0 : s₁.heap = h0 := by rw [← hh, Bd.state]; rfl
  have N0 := Fr.nil n0
  have pre0 : ∀ t, Steps p.tables e below (s₁.setTop (mkF m 0 #[.val (.ref t0), .val (.int (0 : Int32))] [])) t → Steps p.tables e below (s₁.setTop (entryFrame m #[(.ref t0), (.int (0 : Int32))] 2)) t := fun t k => castTop (ef_6_Rl_0___Int32_ m t0) k
  obtain ⟨T1, X1, e1, st1⟩ := getF X0 hx hZ hown (host := "") (Or.inl (hw _ (List.mem_of_getElem? (i := 28) rfl))) Via.refl e0 F_upper_t0 (g := (mkF m 1 #[.val (.ref t0), .val (.int (0 : Int32))] [(.ref t0)])) rfl rfl (hb hby d6_1)
  obtain ⟨cq2, Arq2, -, Sq2, -, Hq2, -⟩ := id V_s1
  obtain ⟨T3, X3, e3, st3⟩ := getF X1 hx hZ hown (host := "") (Or.inl (hw _ (List.mem_of_getElem? (i := 26) rfl))) Via.refl e1 F_lower_t0 (g := (mkF m 21 #[.val (.ref t0), .val (.int (0 : Int32))] [(.ref t0)])) rfl rfl (hb hby d6_21)
  obtain ⟨cq4, Arq4, -, Sq4, -, Hq4, -⟩ := id V_s0
  obtain ⟨T5, X5, e5, st5⟩ := getF X3 hx hZ hown (host := "") (Or.inl (hw _ (List.mem_of_getElem? (i := 28) rfl))) Via.refl e3 F_upper_t0 (g := (mkF m 27 #[.val (.ref t0), .val (.int (0 : Int32))] [(.ref t0), (.double x0)])) rfl rfl (hb hby d6_27)
  obtain ⟨cq6, Arq6, -, Sq6, -, Hq6, -⟩ := id V_s1
  obtain ⟨fs, hr, hrun, hended, hW, hsame⟩ := X5.leave (v := some (.double (FP.ddiv (FP.dadd x0 y0) (4611686018427387904 : UInt64)))) (fun h => by rw [Bd.returns] at h; cases h)
  refine ⟨_, _, pre0 _ ?_, hrun, hended, _, _, rfl, ?_, ⟨_, rfl⟩, hW, hsame.mono (by decide) (by decide)⟩
  · show Steps p.tables e below (s₁.setTop (mkF m 0 #[.val (.ref t0), .val (.int (0 : Int32))] [])) _
    refine XS.aloadN X0.here hx rfl (hb hby d6_0) rfl rfl ?_
    show Steps p.tables e below (s₁.setTop (mkF m 1 #[.val (.ref t0), .val (.int (0 : Int32))] [(.ref t0)])) _
    refine st1 _ ?_
    show Steps p.tables e below (T1.setTop (mkF m 4 #[.val (.ref t0), .val (.int (0 : Int32))] [(.ref s1)])) _
    refine XS.iloadN X1.here hx rfl (hb hby d6_4) rfl ?_
    show Steps p.tables e below (T1.setTop (mkF m 5 #[.val (.ref t0), .val (.int (0 : Int32))] [(.int (0 : Int32)), (.ref s1)])) _
    refine X1.daload hx (j := (0 : Int32)) (v := (.double y0)) (by rw [e1]; exact Arq2.1) (State.isArrayOf_alike hZ.alike Arq2.2.1) Arq2.2.2 (inb_of Sq2 ⟨by decide, by decide⟩) (Has.at Hq2 (inb_of Sq2 ⟨by decide, by decide⟩) rfl) (g := (mkF m 5 #[.val (.ref t0), .val (.int (0 : Int32))] [(.int (0 : Int32)), (.ref s1)])) rfl rfl (hb hby d6_5) _ ?_
    show Steps p.tables e below (T1.setTop (mkF m 6 #[.val (.ref t0), .val (.int (0 : Int32))] [(.double y0)])) _
    refine X1.ldc2DoubleC hx hown (mvT hZ (hw _ (List.mem_of_getElem? (i := 37) rfl))) (g := (mkF m 6 #[.val (.ref t0), .val (.int (0 : Int32))] [(.double y0)])) rfl (hb hby d6_6) _ ?_
    show Steps p.tables e below (T1.setTop (mkF m 9 #[.val (.ref t0), .val (.int (0 : Int32))] [(.double (9218868437227405312 : UInt64)), (.double y0)])) _
    refine XS.dcmpS X1.here hx rfl (hb hby d6_9) rfl (v := (-1 : Int32)) hd9 ?_
    show Steps p.tables e below (T1.setTop (mkF m 10 #[.val (.ref t0), .val (.int (0 : Int32))] [(.int (-1 : Int32))])) _
    refine XS.ifYes X1.here hx rfl (pc0 := 10) (pc' := 20) rfl (hb hby d6_10) rfl ((if0 _ _).trans (feq (by decide : ¬ ((-1 : Int32) = (0 : Int32)))).2) (by decide) (by decide) ?_
    show Steps p.tables e below (T1.setTop (mkF m 20 #[.val (.ref t0), .val (.int (0 : Int32))] [])) _
    refine XS.aloadN X1.here hx rfl (hb hby d6_20) rfl rfl ?_
    show Steps p.tables e below (T1.setTop (mkF m 21 #[.val (.ref t0), .val (.int (0 : Int32))] [(.ref t0)])) _
    refine st3 _ ?_
    show Steps p.tables e below (T3.setTop (mkF m 24 #[.val (.ref t0), .val (.int (0 : Int32))] [(.ref s0)])) _
    refine XS.iloadN X3.here hx rfl (hb hby d6_24) rfl ?_
    show Steps p.tables e below (T3.setTop (mkF m 25 #[.val (.ref t0), .val (.int (0 : Int32))] [(.int (0 : Int32)), (.ref s0)])) _
    refine X3.daload hx (j := (0 : Int32)) (v := (.double x0)) (by rw [e3]; exact Arq4.1) (State.isArrayOf_alike hZ.alike Arq4.2.1) Arq4.2.2 (inb_of Sq4 ⟨by decide, by decide⟩) (Has.at Hq4 (inb_of Sq4 ⟨by decide, by decide⟩) rfl) (g := (mkF m 25 #[.val (.ref t0), .val (.int (0 : Int32))] [(.int (0 : Int32)), (.ref s0)])) rfl rfl (hb hby d6_25) _ ?_
    show Steps p.tables e below (T3.setTop (mkF m 26 #[.val (.ref t0), .val (.int (0 : Int32))] [(.double x0)])) _
    refine XS.aloadN X3.here hx rfl (hb hby d6_26) rfl rfl ?_
    show Steps p.tables e below (T3.setTop (mkF m 27 #[.val (.ref t0), .val (.int (0 : Int32))] [(.ref t0), (.double x0)])) _
    refine st5 _ ?_
    show Steps p.tables e below (T5.setTop (mkF m 30 #[.val (.ref t0), .val (.int (0 : Int32))] [(.ref s1), (.double x0)])) _
    refine XS.iloadN X5.here hx rfl (hb hby d6_30) rfl ?_
    show Steps p.tables e below (T5.setTop (mkF m 31 #[.val (.ref t0), .val (.int (0 : Int32))] [(.int (0 : Int32)), (.ref s1), (.double x0)])) _
    refine X5.daload hx (j := (0 : Int32)) (v := (.double y0)) (by rw [e5]; exact Arq6.1) (State.isArrayOf_alike hZ.alike Arq6.2.1) Arq6.2.2 (inb_of Sq6 ⟨by decide, by decide⟩) (Has.at Hq6 (inb_of Sq6 ⟨by decide, by decide⟩) rfl) (g := (mkF m 31 #[.val (.ref t0), .val (.int (0 : Int32))] [(.int (0 : Int32)), (.ref s1), (.double x0)])) rfl rfl (hb hby d6_31) _ ?_
    show Steps p.tables e below (T5.setTop (mkF m 32 #[.val (.ref t0), .val (.int (0 : Int32))] [(.double y0), (.double x0)])) _
    refine XS.daddS X5.here hx rfl (hb hby d6_32) rfl nn32 (v := (FP.dadd x0 y0)) rfl ?_
    show Steps p.tables e below (T5.setTop (mkF m 33 #[.val (.ref t0), .val (.int (0 : Int32))] [(.double (FP.dadd x0 y0))])) _
    refine X5.ldc2DoubleC hx hown (mvT hZ (hw _ (List.mem_of_getElem? (i := 38) rfl))) (g := (mkF m 33 #[.val (.ref t0), .val (.int (0 : Int32))] [(.double (FP.dadd x0 y0))])) rfl (hb hby d6_33) _ ?_
    show Steps p.tables e below (T5.setTop (mkF m 36 #[.val (.ref t0), .val (.int (0 : Int32))] [(.double (4611686018427387904 : UInt64)), (.double (FP.dadd x0 y0))])) _
    refine XS.ddivS X5.here hx rfl (hb hby d6_36) rfl nn36 (v := (FP.ddiv (FP.dadd x0 y0) (4611686018427387904 : UInt64))) rfl ?_
    show Steps p.tables e below (T5.setTop (mkF m 37 #[.val (.ref t0), .val (.int (0 : Int32))] [(.double (FP.ddiv (FP.dadd x0 y0) (4611686018427387904 : UInt64)))])) _
    exact retOut X5 hx Bd.returns rfl (Or.inr (Or.inr (Or.inl ⟨rfl, rfl, _, rfl⟩))) (hb hby d6_37) hr
  · show Q_rm6_0f Z t0 s0 s1 k0 k1 x0 x1 y0 y1 h0 n0 _ T5.heap _
    rw [e5]
    exact ⟨rfl, N0, rfl⟩
theorem ef_6_Rl_1___Int32_ (m : MethodId) (x0 : Addr) : entryFrame m #[(.ref x0), (.int (1 : Int32))] 2 = mkF m 0 #[.val (.ref x0), .val (.int (1 : Int32))] [] := by first | (simp [entryFrame, mkF, argsToLocals, Value.category]; done) | rfl
def Q_rm6_1i (Z : State) (t0 : Addr) (s0 : Addr) (s1 : Addr) (k0 : ClassId) (k1 : ClassId) (x0 : UInt64) (x1 : UInt64) (y0 : UInt64) (y1 : UInt64) (h0 : Heap) (n0 : Nat) (v : Option Value) (h : Heap) (L : List Loc) : Prop := v = some (.double x1) ∧ Fr n0 L ∧ h = h0
set_option maxRecDepth 65536 in
set_option maxHeartbeats 40000000 in
theorem rm6_1i (l : Launch) (Z : State) (a0 : Array Value) (hw : ∀ d ∈ tables_1, d.before a0 Z = true) (ws : List Jvm.Cond) (t0 : Addr) (s0 : Addr) (s1 : Addr) (k0 : ClassId) (k1 : ClassId) (x0 : UInt64) (x1 : UInt64) (y0 : UInt64) (y1 : UInt64) (h0 : Heap) (n0 : Nat) (Z0 : n0 ≤ h0.size) (F_lower_t0 : Fld Z h0 t0 "com/example/hedge/hedge/ValueBounds" "lower" "[D" (.ref s0)) (F_upper_t0 : Fld Z h0 t0 "com/example/hedge/hedge/ValueBounds" "upper" "[D" (.ref s1)) (V_s0 : Arv Z h0 s0 k0 .double (2 : Int32) [(.double x0), (.double x1)] (.double (0 : UInt64))) (V_s1 : Arv Z h0 s1 k1 .double (2 : Int32) [(.double y0), (.double y1)] (.double (0 : UInt64))) (hd9 : (cmpValue (FP.dcmp y1 (9218868437227405312 : UInt64)) .l) = (0 : Int32)) :
    MetFree l (⟨"com/example/hedge/hedge/ValueBounds", "value", "(I)D"⟩ : MethodName) (head1 (Jvm.Cond.code (⟨"com/example/hedge/hedge/ValueBounds", "value", "(I)D"⟩ : MethodName) prog_32_method_5_code 2 (some .double) :: ws) ({ frames := 0, cells := 0, slots := 0, locals := 0 } : Room)) (fun a U => a = #[(.ref t0), (.int (1 : Int32))] ∧ Z.Warmed39 U.vm ∧ U.heap = h0) (fun _ _ _ _ _ => True) (fun _ U o U' => ∃ v L, o = .returned v ∧ Q_rm6_1i Z t0 s0 s1 k0 k1 x0 x1 y0 y1 h0 n0 v U'.heap L ∧ FrameEnd U o U' L ({ frames := 0, cells := 0, slots := 0, locals := 0 } : Room).cells ({ frames := 0, cells := 0, slots := 0, locals := 0 } : Room).slots) := by
  refine MetFree.of_bodySF (plainFor_of_name pn_com_example_hedge_hedge_ValueBounds) hisR ?_
  intro p e s m args below meth c s₁ Bd hml0 hP hK
  obtain ⟨rfl, hZ, hh⟩ := hP
  have hx := Bd.exec
  have hby := Bd.bytes
  have hml : c.maxLocals = 2 := hml0
  have hown : s.vm.findClass "com/example/hedge/hedge/ValueBounds" = some m.cls := findClass_of_methodNamed Bd.named
  have hnm := (name_of_methodNamed Bd.named Bd.method).1
  have X0 : Stand p l e ({ frames := 0, cells := 0, slots := 0, locals := 0 } : Room) s m #[(.ref t0), (.int (1 : Int32))] below meth c s₁ [] 0 0 := Stand.of_body Bd
  have e0 : s₁.heap = h0 := by rw [← hh, Bd.state]; rfl
  have N0 := Fr.nil n0
  have pre0 : ∀ t, Steps p.tables e below (s₁.setTop (mkF m 0 #[.val (.ref t0), .val (.int (1 : Int32))] [])) t → Steps p.tables e below (s₁.setTop (entryFrame m #[(.ref t0), (.int (1 : Int32))] 2)) t := fun t k => castTop (ef_6_Rl_1___Int32_ m t0) k
  obtain ⟨T1, X1, e1, st1⟩ := getF X0 hx hZ hown (host := "") (Or.inl (hw _ (List.mem_of_getElem? (i := 28) rfl))) Via.refl e0 F_upper_t0 (g := (mkF m 1 #[.val (.ref t0), .val (.int (1 : Int32))] [(.ref t0)])) rfl rfl (hb hby d6_1)
  obtain ⟨cq2, Arq2, -, Sq2, -, Hq2, -⟩ := id V_s1
  obtain ⟨T3, X3, e3, st3⟩ := getF X1 hx hZ hown (host := "") (Or.inl (hw _ (List.mem_of_getElem? (i := 26) rfl))) Via.refl e1 F_lower_t0 (g := (mkF m 14 #[.val (.ref t0), .val (.int (1 : Int32))] [(.ref t0)])) rfl rfl (hb hby d6_14)
  obtain ⟨cq4, Arq4, -, Sq4, -, Hq4, -⟩ := id V_s0
  obtain ⟨fs, hr, hrun, hended, hW, hsame⟩ := X3.leave (v := some (.double x1)) (fun h => by rw [Bd.returns] at h; cases h)
  refine ⟨_, _, pre0 _ ?_, hrun, hended, _, _, rfl, ?_, ⟨_, rfl⟩, hW, hsame.mono (by decide) (by decide)⟩
  · show Steps p.tables e below (s₁.setTop (mkF m 0 #[.val (.ref t0), .val (.int (1 : Int32))] [])) _
    refine XS.aloadN X0.here hx rfl (hb hby d6_0) rfl rfl ?_
    show Steps p.tables e below (s₁.setTop (mkF m 1 #[.val (.ref t0), .val (.int (1 : Int32))] [(.ref t0)])) _
    refine st1 _ ?_
    show Steps p.tables e below (T1.setTop (mkF m 4 #[.val (.ref t0), .val (.int (1 : Int32))] [(.ref s1)])) _
    refine XS.iloadN X1.here hx rfl (hb hby d6_4) rfl ?_
    show Steps p.tables e below (T1.setTop (mkF m 5 #[.val (.ref t0), .val (.int (1 : Int32))] [(.int (1 : Int32)), (.ref s1)])) _
    refine X1.daload hx (j := (1 : Int32)) (v := (.double y1)) (by rw [e1]; exact Arq2.1) (State.isArrayOf_alike hZ.alike Arq2.2.1) Arq2.2.2 (inb_of Sq2 ⟨by decide, by decide⟩) (Has.at Hq2 (inb_of Sq2 ⟨by decide, by decide⟩) rfl) (g := (mkF m 5 #[.val (.ref t0), .val (.int (1 : Int32))] [(.int (1 : Int32)), (.ref s1)])) rfl rfl (hb hby d6_5) _ ?_
    show Steps p.tables e below (T1.setTop (mkF m 6 #[.val (.ref t0), .val (.int (1 : Int32))] [(.double y1)])) _
    refine X1.ldc2DoubleC hx hown (mvT hZ (hw _ (List.mem_of_getElem? (i := 37) rfl))) (g := (mkF m 6 #[.val (.ref t0), .val (.int (1 : Int32))] [(.double y1)])) rfl (hb hby d6_6) _ ?_
    show Steps p.tables e below (T1.setTop (mkF m 9 #[.val (.ref t0), .val (.int (1 : Int32))] [(.double (9218868437227405312 : UInt64)), (.double y1)])) _
    refine XS.dcmpS X1.here hx rfl (hb hby d6_9) rfl (v := (0 : Int32)) hd9 ?_
    show Steps p.tables e below (T1.setTop (mkF m 10 #[.val (.ref t0), .val (.int (1 : Int32))] [(.int (0 : Int32))])) _
    refine XS.ifNo X1.here hx rfl (hb hby d6_10) rfl ((if0 _ _).trans (teq (by decide : (0 : Int32) = (0 : Int32))).2) ?_
    show Steps p.tables e below (T1.setTop (mkF m 13 #[.val (.ref t0), .val (.int (1 : Int32))] [])) _
    refine XS.aloadN X1.here hx rfl (hb hby d6_13) rfl rfl ?_
    show Steps p.tables e below (T1.setTop (mkF m 14 #[.val (.ref t0), .val (.int (1 : Int32))] [(.ref t0)])) _
    refine st3 _ ?_
    show Steps p.tables e below (T3.setTop (mkF m 17 #[.val (.ref t0), .val (.int (1 : Int32))] [(.ref s0)])) _
    refine XS.iloadN X3.here hx rfl (hb hby d6_17) rfl ?_
    show Steps p.tables e below (T3.setTop (mkF m 18 #[.val (.ref t0), .val (.int (1 : Int32))] [(.int (1 : Int32)), (.ref s0)])) _
    refine X3.daload hx (j := (1 : Int32)) (v := (.double x1)) (by rw [e3]; exact Arq4.1) (State.isArrayOf_alike hZ.alike Arq4.2.1) Arq4.2.2 (inb_of Sq4 ⟨by decide, by decide⟩) (Has.at Hq4 (inb_of Sq4 ⟨by decide, by decide⟩) rfl) (g := (mkF m 18 #[.val (.ref t0), .val (.int (1 : Int32))] [(.int (1 : Int32)), (.ref s0)])) rfl rfl (hb hby d6_18) _ ?_
    show Steps p.tables e below (T3.setTop (mkF m 19 #[.val (.ref t0), .val (.int (1 : Int32))] [(.double x1)])) _
    exact retOut X3 hx Bd.returns rfl (Or.inr (Or.inr (Or.inl ⟨rfl, rfl, _, rfl⟩))) (hb hby d6_19) hr
  · show Q_rm6_1i Z t0 s0 s1 k0 k1 x0 x1 y0 y1 h0 n0 _ T3.heap _
    rw [e3]
    exact ⟨rfl, N0, rfl⟩
def Q_rm6_1f (Z : State) (t0 : Addr) (s0 : Addr) (s1 : Addr) (k0 : ClassId) (k1 : ClassId) (x0 : UInt64) (x1 : UInt64) (y0 : UInt64) (y1 : UInt64) (h0 : Heap) (n0 : Nat) (v : Option Value) (h : Heap) (L : List Loc) : Prop := v = some (.double (FP.ddiv (FP.dadd x1 y1) (4611686018427387904 : UInt64))) ∧ Fr n0 L ∧ h = h0
set_option maxRecDepth 65536 in
set_option maxHeartbeats 40000000 in
theorem rm6_1f (l : Launch) (Z : State) (a0 : Array Value) (hw : ∀ d ∈ tables_1, d.before a0 Z = true) (ws : List Jvm.Cond) (t0 : Addr) (s0 : Addr) (s1 : Addr) (k0 : ClassId) (k1 : ClassId) (x0 : UInt64) (x1 : UInt64) (y0 : UInt64) (y1 : UInt64) (h0 : Heap) (n0 : Nat) (Z0 : n0 ≤ h0.size) (F_lower_t0 : Fld Z h0 t0 "com/example/hedge/hedge/ValueBounds" "lower" "[D" (.ref s0)) (F_upper_t0 : Fld Z h0 t0 "com/example/hedge/hedge/ValueBounds" "upper" "[D" (.ref s1)) (V_s0 : Arv Z h0 s0 k0 .double (2 : Int32) [(.double x0), (.double x1)] (.double (0 : UInt64))) (V_s1 : Arv Z h0 s1 k1 .double (2 : Int32) [(.double y0), (.double y1)] (.double (0 : UInt64))) (hd9 : (cmpValue (FP.dcmp y1 (9218868437227405312 : UInt64)) .l) = (-1 : Int32)) (nn32 : Jvm.Free.Fl.NoNaN64 (FP.dadd x1 y1)) (nn36 : Jvm.Free.Fl.NoNaN64 (FP.ddiv (FP.dadd x1 y1) (4611686018427387904 : UInt64))) :
    MetFree l (⟨"com/example/hedge/hedge/ValueBounds", "value", "(I)D"⟩ : MethodName) (head1 (Jvm.Cond.code (⟨"com/example/hedge/hedge/ValueBounds", "value", "(I)D"⟩ : MethodName) prog_32_method_5_code 2 (some .double) :: ws) ({ frames := 0, cells := 0, slots := 0, locals := 0 } : Room)) (fun a U => a = #[(.ref t0), (.int (1 : Int32))] ∧ Z.Warmed39 U.vm ∧ U.heap = h0) (fun _ _ _ _ _ => True) (fun _ U o U' => ∃ v L, o = .returned v ∧ Q_rm6_1f Z t0 s0 s1 k0 k1 x0 x1 y0 y1 h0 n0 v U'.heap L ∧ FrameEnd U o U' L ({ frames := 0, cells := 0, slots := 0, locals := 0 } : Room).cells ({ frames := 0, cells := 0, slots := 0, locals := 0 } : Room).slots) := by
  refine MetFree.of_bodySF (plainFor_of_name pn_com_example_hedge_hedge_ValueBounds) hisR ?_
  intro p e s m args below meth c s₁ Bd hml0 hP hK
  obtain ⟨rfl, hZ, hh⟩ := hP
  have hx := Bd.exec
  have hby := Bd.bytes
  have hml : c.maxLocals = 2 := hml0
  have hown : s.vm.findClass "com/example/hedge/hedge/ValueBounds" = some m.cls := findClass_of_methodNamed Bd.named
  have hnm := (name_of_methodNamed Bd.named Bd.method).1
  have X0 : Stand p l e ({ frames := 0, cells := 0, slots := 0, locals := 0 } : Room) s m #[(.ref t0), (.int (1 : Int32))] below meth c s₁ [] 0 0 := Stand.of_body Bd
  have e0 : s₁.heap = h0 := by rw [← hh, Bd.state]; rfl
  have N0 := Fr.nil n0
  have pre0 : ∀ t, Steps p.tables e below (s₁.setTop (mkF m 0 #[.val (.ref t0), .val (.int (1 : Int32))] [])) t → Steps p.tables e below (s₁.setTop (entryFrame m #[(.ref t0), (.int (1 : Int32))] 2)) t := fun t k => castTop (ef_6_Rl_1___Int32_ m t0) k
  obtain ⟨T1, X1, e1, st1⟩ := getF X0 hx hZ hown (host := "") (Or.inl (hw _ (List.mem_of_getElem? (i := 28) rfl))) Via.refl e0 F_upper_t0 (g := (mkF m 1 #[.val (.ref t0), .val (.int (1 : Int32))] [(.ref t0)])) rfl rfl (hb hby d6_1)
  obtain ⟨cq2, Arq2, -, Sq2, -, Hq2, -⟩ := id V_s1
  obtain ⟨T3, X3, e3, st3⟩ := getF X1 hx hZ hown (host := "") (Or.inl (hw _ (List.mem_of_getElem? (i := 26) rfl))) Via.refl e1 F_lower_t0 (g := (mkF m 21 #[.val (.ref t0), .val (.int (1 : Int32))] [(.ref t0)])) rfl rfl (hb hby d6_21)
  obtain ⟨cq4, Arq4, -, Sq4, -, Hq4, -⟩ := id V_s0
  obtain ⟨T5, X5, e5, st5⟩ := getF X3 hx hZ hown (host := "") (Or.inl (hw _ (List.mem_of_getElem? (i := 28) rfl))) Via.refl e3 F_upper_t0 (g := (mkF m 27 #[.val (.ref t0), .val (.int (1 : Int32))] [(.ref t0), (.double x1)])) rfl rfl (hb hby d6_27)
  obtain ⟨cq6, Arq6, -, Sq6, -, Hq6, -⟩ := id V_s1
  obtain ⟨fs, hr, hrun, hended, hW, hsame⟩ := X5.leave (v := some (.double (FP.ddiv (FP.dadd x1 y1) (4611686018427387904 : UInt64)))) (fun h => by rw [Bd.returns] at h; cases h)
  refine ⟨_, _, pre0 _ ?_, hrun, hended, _, _, rfl, ?_, ⟨_, rfl⟩, hW, hsame.mono (by decide) (by decide)⟩
  · show Steps p.tables e below (s₁.setTop (mkF m 0 #[.val (.ref t0), .val (.int (1 : Int32))] [])) _
    refine XS.aloadN X0.here hx rfl (hb hby d6_0) rfl rfl ?_
    show Steps p.tables e below (s₁.setTop (mkF m 1 #[.val (.ref t0), .val (.int (1 : Int32))] [(.ref t0)])) _
    refine st1 _ ?_
    show Steps p.tables e below (T1.setTop (mkF m 4 #[.val (.ref t0), .val (.int (1 : Int32))] [(.ref s1)])) _
    refine XS.iloadN X1.here hx rfl (hb hby d6_4) rfl ?_
    show Steps p.tables e below (T1.setTop (mkF m 5 #[.val (.ref t0), .val (.int (1 : Int32))] [(.int (1 : Int32)), (.ref s1)])) _
    refine X1.daload hx (j := (1 : Int32)) (v := (.double y1)) (by rw [e1]; exact Arq2.1) (State.isArrayOf_alike hZ.alike Arq2.2.1) Arq2.2.2 (inb_of Sq2 ⟨by decide, by decide⟩) (Has.at Hq2 (inb_of Sq2 ⟨by decide, by decide⟩) rfl) (g := (mkF m 5 #[.val (.ref t0), .val (.int (1 : Int32))] [(.int (1 : Int32)), (.ref s1)])) rfl rfl (hb hby d6_5) _ ?_
    show Steps p.tables e below (T1.setTop (mkF m 6 #[.val (.ref t0), .val (.int (1 : Int32))] [(.double y1)])) _
    refine X1.ldc2DoubleC hx hown (mvT hZ (hw _ (List.mem_of_getElem? (i := 37) rfl))) (g := (mkF m 6 #[.val (.ref t0), .val (.int (1 : Int32))] [(.double y1)])) rfl (hb hby d6_6) _ ?_
    show Steps p.tables e below (T1.setTop (mkF m 9 #[.val (.ref t0), .val (.int (1 : Int32))] [(.double (9218868437227405312 : UInt64)), (.double y1)])) _
    refine XS.dcmpS X1.here hx rfl (hb hby d6_9) rfl (v := (-1 : Int32)) hd9 ?_
    show Steps p.tables e below (T1.setTop (mkF m 10 #[.val (.ref t0), .val (.int (1 : Int32))] [(.int (-1 : Int32))])) _
    refine XS.ifYes X1.here hx rfl (pc0 := 10) (pc' := 20) rfl (hb hby d6_10) rfl ((if0 _ _).trans (feq (by decide : ¬ ((-1 : Int32) = (0 : Int32)))).2) (by decide) (by decide) ?_
    show Steps p.tables e below (T1.setTop (mkF m 20 #[.val (.ref t0), .val (.int (1 : Int32))] [])) _
    refine XS.aloadN X1.here hx rfl (hb hby d6_20) rfl rfl ?_
    show Steps p.tables e below (T1.setTop (mkF m 21 #[.val (.ref t0), .val (.int (1 : Int32))] [(.ref t0)])) _
    refine st3 _ ?_
    show Steps p.tables e below (T3.setTop (mkF m 24 #[.val (.ref t0), .val (.int (1 : Int32))] [(.ref s0)])) _
    refine XS.iloadN X3.here hx rfl (hb hby d6_24) rfl ?_
    show Steps p.tables e below (T3.setTop (mkF m 25 #[.val (.ref t0), .val (.int (1 : Int32))] [(.int (1 : Int32)), (.ref s0)])) _
    refine X3.daload hx (j := (1 : Int32)) (v := (.double x1)) (by rw [e3]; exact Arq4.1) (State.isArrayOf_alike hZ.alike Arq4.2.1) Arq4.2.2 (inb_of Sq4 ⟨by decide, by decide⟩) (Has.at Hq4 (inb_of Sq4 ⟨by decide, by decide⟩) rfl) (g := (mkF m 25 #[.val (.ref t0), .val (.int (1 : Int32))] [(.int (1 : Int32)), (.ref s0)])) rfl rfl (hb hby d6_25) _ ?_
    show Steps p.tables e below (T3.setTop (mkF m 26 #[.val (.ref t0), .val (.int (1 : Int32))] [(.double x1)])) _
    refine XS.aloadN X3.here hx rfl (hb hby d6_26) rfl rfl ?_
    show Steps p.tables e below (T3.setTop (mkF m 27 #[.val (.ref t0), .val (.int (1 : Int32))] [(.ref t0), (.double x1)])) _
    refine st5 _ ?_
    show Steps p.tables e below (T5.setTop (mkF m 30 #[.val (.ref t0), .val (.int (1 : Int32))] [(.ref s1), (.double x1)])) _
    refine XS.iloadN X5.here hx rfl (hb hby d6_30) rfl ?_
    show Steps p.tables e below (T5.setTop (mkF m 31 #[.val (.ref t0), .val (.int (1 : Int32))] [(.int (1 : Int32)), (.ref s1), (.double x1)])) _
    refine X5.daload hx (j := (1 : Int32)) (v := (.double y1)) (by rw [e5]; exact Arq6.1) (State.isArrayOf_alike hZ.alike Arq6.2.1) Arq6.2.2 (inb_of Sq6 ⟨by decide, by decide⟩) (Has.at Hq6 (inb_of Sq6 ⟨by decide, by decide⟩) rfl) (g := (mkF m 31 #[.val (.ref t0), .val (.int (1 : Int32))] [(.int (1 : Int32)), (.ref s1), (.double x1)])) rfl rfl (hb hby d6_31) _ ?_
    show Steps p.tables e below (T5.setTop (mkF m 32 #[.val (.ref t0), .val (.int (1 : Int32))] [(.double y1), (.double x1)])) _
    refine XS.daddS X5.here hx rfl (hb hby d6_32) rfl nn32 (v := (FP.dadd x1 y1)) rfl ?_
    show Steps p.tables e below (T5.setTop (mkF m 33 #[.val (.ref t0), .val (.int (1 : Int32))] [(.double (FP.dadd x1 y1))])) _
    refine X5.ldc2DoubleC hx hown (mvT hZ (hw _ (List.mem_of_getElem? (i := 38) rfl))) (g := (mkF m 33 #[.val (.ref t0), .val (.int (1 : Int32))] [(.double (FP.dadd x1 y1))])) rfl (hb hby d6_33) _ ?_
    show Steps p.tables e below (T5.setTop (mkF m 36 #[.val (.ref t0), .val (.int (1 : Int32))] [(.double (4611686018427387904 : UInt64)), (.double (FP.dadd x1 y1))])) _
    refine XS.ddivS X5.here hx rfl (hb hby d6_36) rfl nn36 (v := (FP.ddiv (FP.dadd x1 y1) (4611686018427387904 : UInt64))) rfl ?_
    show Steps p.tables e below (T5.setTop (mkF m 37 #[.val (.ref t0), .val (.int (1 : Int32))] [(.double (FP.ddiv (FP.dadd x1 y1) (4611686018427387904 : UInt64)))])) _
    exact retOut X5 hx Bd.returns rfl (Or.inr (Or.inr (Or.inl ⟨rfl, rfl, _, rfl⟩))) (hb hby d6_37) hr
  · show Q_rm6_1f Z t0 s0 s1 k0 k1 x0 x1 y0 y1 h0 n0 _ T5.heap _
    rw [e5]
    exact ⟨rfl, N0, rfl⟩
theorem pd_1 : parseMethodDescriptor "(II)I" = some ⟨[.int, .int], some .int⟩ := by decide +kernel
theorem pd_2 : parseMethodDescriptor "([D[D[I)V" = some ⟨[(.array .double), (.array .double), (.array .int)], none⟩ := by decide +kernel
theorem pd_3 : parseMethodDescriptor "(I)D" = some ⟨[.int], some .double⟩ := by decide +kernel
theorem pn_com_example_hedge_hedge_ValueBoundsValuePinLaw : plainName "com/example/hedge/hedge/ValueBoundsValuePinLaw" = true := by first | (simp [plainName, overriddenIn]; done) | decide +kernel
theorem ef_0_IIIII (m : MethodId) (x0 : Int32) (x1 : Int32) (x2 : Int32) (x3 : Int32) (x4 : Int32) : entryFrame m #[(.int x0), (.int x1), (.int x2), (.int x3), (.int x4)] maxLocals = mkF m 0 #[.val (.int x0), .val (.int x1), .val (.int x2), .val (.int x3), .val (.int x4), .unset, .unset, .unset, .unset, .unset, .unset, .unset, .unset, .unset, .unset, .unset, .unset, .unset, .unset] [] := by first | (simp [entryFrame, mkF, argsToLocals, Value.category, maxLocals]; done) | rfl
def Q0 (n0 : Nat) (v : Option Value) (h : Heap) (L : List Loc) : Prop := v = some (.int (1 : Int32)) ∧ Fr n0 L
set_option maxRecDepth 65536 in
set_option maxHeartbeats 40000000 in
theorem rm0_00 (l : Launch) (Z : State) (a0 : Array Value) (hw : ∀ d ∈ tables_1, d.before a0 Z = true) (ws : List Jvm.Cond) (p0 : Int32) (p1 : Int32) (p2 : Int32) (p3 : Int32) (p4 : Int32) (mn : Int32) (mx : Int32) (ub : UInt64) (h0 : Heap) (n0 : Nat) (Z0 : n0 ≤ h0.size) (hv2 : (p3 &&& (1 : Int32)) = (0 : Int32)) (hv13 : (p2 &&& (3 : Int32)) = (0 : Int32)) (hr_r_18 : (if p1 < p0 then p1 else p0) = mn) (hr_r_25 : (if p0 < p1 then p1 else p0) = mx) (hj_ub : (if ((p2 >>> ((2 : Int32) &&& 31)) &&& (1 : Int32)) = (0 : Int32) then (FP.i2d p4) else (9218868437227405312 : UInt64)) = ub) (hd9_157 : (cmpValue (FP.dcmp (FP.i2d mx) (9218868437227405312 : UInt64)) .l) = (-1 : Int32)) (nn32_157 : Jvm.Free.Fl.NoNaN64 (FP.dadd (FP.i2d mn) (FP.i2d mx))) (nn36_157 : Jvm.Free.Fl.NoNaN64 (FP.ddiv (FP.dadd (FP.i2d mn) (FP.i2d mx)) (4611686018427387904 : UInt64))) (nn172 : Jvm.Free.Fl.NoNaN64 (FP.dmul (FP.ddiv (FP.dadd (FP.i2d mn) (FP.i2d mx)) (4611686018427387904 : UInt64)) (4611686018427387904 : UInt64))) (hd181 : (cmpValue (FP.dcmp (FP.dmul (FP.ddiv (FP.dadd (FP.i2d mn) (FP.i2d mx)) (4611686018427387904 : UInt64)) (4611686018427387904 : UInt64)) (FP.l2d ((mn.toInt64) + (mx.toInt64)))) .l) = (0 : Int32)) :
    MetFree l x (head1 (Jvm.Cond.code x code maxLocals ret :: ws) room_1) (fun a U => a = #[(.int p0), (.int p1), (.int p2), (.int p3), (.int p4)] ∧ Z.Warmed39 U.vm ∧ U.heap = h0) (fun _ _ _ _ _ => True) (fun _ U o U' => ∃ v L, o = .returned v ∧ Q0 n0 v U'.heap L ∧ FrameEnd U o U' L room_1.cells room_1.slots) := by
  refine MetFree.of_bodySF (plainFor_of_name pn_com_example_hedge_hedge_ValueBoundsValuePinLaw) hisR ?_
  intro p e s m args below meth c s₁ Bd hml0 hP hK
  obtain ⟨rfl, hZ, hh⟩ := hP
  have hx := Bd.exec
  have hby := Bd.bytes
  have hml : c.maxLocals = 19 := hml0
  have hown : s.vm.findClass "com/example/hedge/hedge/ValueBoundsValuePinLaw" = some m.cls := findClass_of_methodNamed Bd.named
  have hnm := (name_of_methodNamed Bd.named Bd.method).1
  have X0 : Stand p l e room_1 s m #[(.int p0), (.int p1), (.int p2), (.int p3), (.int p4)] below meth c s₁ [] 0 0 := Stand.of_body Bd
  have e0 : s₁.heap = h0 := by rw [← hh, Bd.state]; rfl
  have N0 := Fr.nil n0
  have pre0 : ∀ t, Steps p.tables e below (s₁.setTop (mkF m 0 #[.val (.int p0), .val (.int p1), .val (.int p2), .val (.int p3), .val (.int p4), .unset, .unset, .unset, .unset, .unset, .unset, .unset, .unset, .unset, .unset, .unset, .unset, .unset, .unset] [])) t → Steps p.tables e below (s₁.setTop (entryFrame m #[(.int p0), (.int p1), (.int p2), (.int p3), (.int p4)] maxLocals)) t := fun t k => castTop (ef_0_IIIII m p0 p1 p2 p3 p4) k
  obtain ⟨_, _, ⟨T1, L1, k1, n1⟩, -, X1, ⟨Lc1, hQ1, l1, y1, z1⟩, st1⟩ := Jvm.LawKit.callS X0 hx (y := (⟨"java/lang/Math", "min", "(II)I"⟩ : MethodName)) hown (mvT hZ (hw _ (List.mem_of_getElem? (i := 0) rfl))) (mvT hZ (hw _ (List.mem_of_getElem? (i := 1) rfl))) (mvT hZ (hw _ (List.mem_of_getElem? (i := 2) rfl))) (mvT hZ (hw _ (List.mem_of_getElem? (i := 3) rfl))) (by decide) (backOf (W := 0) (rm1M l Z a0 hw [] p0 p1 mn h0 n0 Z0 hr_r_18) hZ (hw _ (List.mem_of_getElem? (i := 3) rfl)) (hw _ (List.mem_of_getElem? (i := 2) rfl)) (by decide) (by decide)) (g := (mkF m 18 #[.val (.int p0), .val (.int p1), .val (.int p2), .val (.int p3), .val (.int p4), .val (.int (0 : Int32)), .val (.int (1 : Int32)), .val (.int (0 : Int32)), .unset, .unset, .unset, .unset, .unset, .unset, .unset, .unset, .unset, .unset, .unset] [(.int p1), (.int p0)])) rfl (by rw [hml]; rfl) (argsL := [(.int p0), (.int p1)]) (rest := []) (lenOf pd_1 rfl) rfl (by show 2 * 0 + _ ≤ _; exact Nat.le_of_eq rfl) (hb hby at_18) (fun _ _ => ⟨rfl, e0, (by decide : 0 + 0 ≤ _), (by decide : 0 + 0 ≤ _)⟩)
  dsimp only [Pt.U, Pt.locs, Pt.cells, Pt.slots] at X1 l1 y1 z1 st1 hQ1
  subst l1 y1 z1
  obtain ⟨rfl, N1q, eh1⟩ := hQ1
  have N1 := Fr.app N0 N1q
  have e1 : T1.heap = h0 := eh1
  obtain ⟨_, _, ⟨T2, L2, k2, n2⟩, -, X2, ⟨Lc2, hQ2, l2, y2, z2⟩, st2⟩ := Jvm.LawKit.callS X1 hx (y := (⟨"java/lang/Math", "max", "(II)I"⟩ : MethodName)) hown (mvT hZ (hw _ (List.mem_of_getElem? (i := 4) rfl))) (mvT hZ (hw _ (List.mem_of_getElem? (i := 5) rfl))) (mvT hZ (hw _ (List.mem_of_getElem? (i := 2) rfl))) (mvT hZ (hw _ (List.mem_of_getElem? (i := 6) rfl))) (by decide) (backOf (W := 0) (rm2M l Z a0 hw [] p0 p1 mx h0 n0 Z0 hr_r_25) hZ (hw _ (List.mem_of_getElem? (i := 6) rfl)) (hw _ (List.mem_of_getElem? (i := 2) rfl)) (by decide) (by decide)) (g := (mkF m 25 #[.val (.int p0), .val (.int p1), .val (.int p2), .val (.int p3), .val (.int p4), .val (.int (0 : Int32)), .val (.int (1 : Int32)), .val (.int (0 : Int32)), .val (.int mn), .unset, .unset, .unset, .unset, .unset, .unset, .unset, .unset, .unset, .unset] [(.int p1), (.int p0)])) rfl (by rw [hml]; rfl) (argsL := [(.int p0), (.int p1)]) (rest := []) (lenOf pd_1 rfl) rfl (by show 2 * 0 + _ ≤ _; exact Nat.le_of_eq rfl) (hb hby at_25) (fun _ _ => ⟨rfl, e1, (by decide : 0 + 0 ≤ _), (by decide : 0 + 0 ≤ _)⟩)
  dsimp only [Pt.U, Pt.locs, Pt.cells, Pt.slots] at X2 l2 y2 z2 st2 hQ2
  subst l2 y2 z2
  obtain ⟨rfl, N2q, eh2⟩ := hQ2
  have N2 := Fr.app N1 N2q
  have e2 : T2.heap = h0 := eh2
  obtain ⟨T3, h3, k3, X3, e3, E3, A3, st3⟩ := newP X2 hx hZ (hw _ (List.mem_of_getElem? (i := 9) rfl)) e2 (g := (mkF m 41 #[.val (.int p0), .val (.int p1), .val (.int p2), .val (.int p3), .val (.int p4), .val (.int (0 : Int32)), .val (.int (1 : Int32)), .val (.int (0 : Int32)), .val (.int mn), .val (.int mx), .val (.double (9218868437227405312 : UInt64)), .second, .val (.double (18442240474082181120 : UInt64)), .second, .unset, .unset, .unset, .unset, .unset] [(.int (2 : Int32))])) rfl (hb hby at_41) rfl (by decide) (cap := 2) (by decide) (by decide) (by decide) (by decide)
  obtain ⟨b3, g3⟩ : ∃ z, z = h0.size := ⟨_, rfl⟩
  rw [← g3] at A3 st3
  have g_b3 : n0 ≤ b3 := Nat.le_trans Z0 (Nat.le_of_eq g3.symm)
  have sz_b3 : h0.size ≤ b3 := Nat.le_trans (Keep.refl h0 []).1 (Nat.le_of_eq g3.symm)
  have K3 : Keep h0 h3 [] := (Keep.refl h0 []).ext E3
  have Zs3 := Nat.le_trans Z0 E3.1
  have V3 : Arv Z h3 b3 k3 .double (2 : Int32) [(.double (0 : UInt64)), (.double (0 : UInt64))] (.double (0 : UInt64)) := (Arv.new A3 (by decide)).pad (pad_rep [] (.double (0 : UInt64)) 2)
  obtain ⟨T4, h4, k4, X4, e4, E4, A4, st4⟩ := newP X3 hx hZ (hw _ (List.mem_of_getElem? (i := 9) rfl)) e3 (g := (mkF m 46 #[.val (.int p0), .val (.int p1), .val (.int p2), .val (.int p3), .val (.int p4), .val (.int (0 : Int32)), .val (.int (1 : Int32)), .val (.int (0 : Int32)), .val (.int mn), .val (.int mx), .val (.double (9218868437227405312 : UInt64)), .second, .val (.double (18442240474082181120 : UInt64)), .second, .val (.ref b3), .unset, .unset, .unset, .unset] [(.int (2 : Int32))])) rfl (hb hby at_46) rfl (by decide) (cap := 2) (by decide) (by decide) (by decide) (by decide)
  obtain ⟨b4, g4⟩ : ∃ z, z = h3.size := ⟨_, rfl⟩
  rw [← g4] at A4 st4
  have ne_b3_b4 : b3 ≠ b4 := Nat.ne_of_lt (Nat.lt_of_lt_of_le V3.lt (Nat.le_of_eq g4.symm))
  have g_b4 : n0 ≤ b4 := Nat.le_trans Zs3 (Nat.le_of_eq g4.symm)
  have sz_b4 : h0.size ≤ b4 := Nat.le_trans K3.1 (Nat.le_of_eq g4.symm)
  have f5 := V3.ext E4
  have K4 : Keep h0 h4 [] := K3.ext E4
  have Zs4 := Nat.le_trans Zs3 E4.1
  have V4 : Arv Z h4 b4 k4 .double (2 : Int32) [(.double (0 : UInt64)), (.double (0 : UInt64))] (.double (0 : UInt64)) := (Arv.new A4 (by decide)).pad (pad_rep [] (.double (0 : UInt64)) 2)
  obtain ⟨cq6, Arq6, qq6, Sq6, Nq6, Hq6, Gq6⟩ := id f5
  obtain ⟨T7, h7, X7, e7, W7, st7⟩ := stD X4 hx hZ e4 Arq6 (j := (0 : Int32)) (inb_of Sq6 ⟨by decide, by decide⟩) (g := (mkF m 74 #[.val (.int p0), .val (.int p1), .val (.int p2), .val (.int p3), .val (.int p4), .val (.int (0 : Int32)), .val (.int (1 : Int32)), .val (.int (0 : Int32)), .val (.int mn), .val (.int mx), .val (.double (9218868437227405312 : UInt64)), .second, .val (.double (18442240474082181120 : UInt64)), .second, .val (.ref b3), .val (.ref b4), .unset, .unset, .unset] [(.double (FP.i2d mn)), (.int (0 : Int32)), (.ref b3)])) rfl rfl (hb hby at_74)
  have f8 := V4.other W7 (Ne.symm ne_b3_b4)
  have K7 : Keep h0 h7 [] := K4.wr W7 (Or.inr sz_b3)
  have Zs7 := Nat.le_trans Zs4 (Keep.of_wr W7).1
  have N7 := Fr.snoc X7 N2 g_b3
  have f9 : Arv Z h7 b3 k3 .double (2 : Int32) [(.double (FP.i2d mn)), (.double (0 : UInt64))] (.double (0 : UInt64)) := Arv.set Arq6 qq6 Sq6 Nq6 Hq6 Gq6 rfl W7 0 rfl (Nat.le_of_ble_eq_true rfl)
  obtain ⟨cq10, Arq10, qq10, Sq10, Nq10, Hq10, Gq10⟩ := id f8
  obtain ⟨T11, h11, X11, e11, W11, st11⟩ := stD X7 hx hZ e7 Arq10 (j := (0 : Int32)) (inb_of Sq10 ⟨by decide, by decide⟩) (g := (mkF m 99 #[.val (.int p0), .val (.int p1), .val (.int p2), .val (.int p3), .val (.int p4), .val (.int (0 : Int32)), .val (.int (1 : Int32)), .val (.int (0 : Int32)), .val (.int mn), .val (.int mx), .val (.double (9218868437227405312 : UInt64)), .second, .val (.double (18442240474082181120 : UInt64)), .second, .val (.ref b3), .val (.ref b4), .unset, .unset, .unset] [(.double (FP.i2d mx)), (.int (0 : Int32)), (.ref b4)])) rfl rfl (hb hby at_99)
  have f12 := f9.other W11 ne_b3_b4
  have K11 : Keep h0 h11 [] := K7.wr W11 (Or.inr sz_b4)
  have Zs11 := Nat.le_trans Zs7 (Keep.of_wr W11).1
  have N11 := Fr.snoc X11 N7 g_b4
  have f13 : Arv Z h11 b4 k4 .double (2 : Int32) [(.double (FP.i2d mx)), (.double (0 : UInt64))] (.double (0 : UInt64)) := Arv.set Arq10 qq10 Sq10 Nq10 Hq10 Gq10 rfl W11 0 rfl (Nat.le_of_ble_eq_true rfl)
  obtain ⟨cq14, Arq14, qq14, Sq14, Nq14, Hq14, Gq14⟩ := id f12
  obtain ⟨T15, h15, X15, e15, W15, st15⟩ := stD X11 hx hZ e11 Arq14 (j := (1 : Int32)) (inb_of Sq14 ⟨by decide, by decide⟩) (g := (mkF m 107 #[.val (.int p0), .val (.int p1), .val (.int p2), .val (.int p3), .val (.int p4), .val (.int (0 : Int32)), .val (.int (1 : Int32)), .val (.int (0 : Int32)), .val (.int mn), .val (.int mx), .val (.double (9218868437227405312 : UInt64)), .second, .val (.double (18442240474082181120 : UInt64)), .second, .val (.ref b3), .val (.ref b4), .unset, .unset, .unset] [(.double (FP.i2d p4)), (.int (1 : Int32)), (.ref b3)])) rfl rfl (hb hby at_107)
  have f16 := f13.other W15 (Ne.symm ne_b3_b4)
  have K15 : Keep h0 h15 [] := K11.wr W15 (Or.inr sz_b3)
  have Zs15 := Nat.le_trans Zs11 (Keep.of_wr W15).1
  have N15 := Fr.snoc X15 N11 g_b3
  have f17 : Arv Z h15 b3 k3 .double (2 : Int32) [(.double (FP.i2d mn)), (.double (FP.i2d p4))] (.double (0 : UInt64)) := Arv.set Arq14 qq14 Sq14 Nq14 Hq14 Gq14 rfl W15 1 rfl (Nat.le_of_ble_eq_true rfl)
  have jn18 : ∀ target, Steps p.tables e below (T15.setTop (mkF m 128 #[.val (.int p0), .val (.int p1), .val (.int p2), .val (.int p3), .val (.int p4), .val (.int (0 : Int32)), .val (.int (1 : Int32)), .val (.int (0 : Int32)), .val (.int mn), .val (.int mx), .val (.double (9218868437227405312 : UInt64)), .second, .val (.double (18442240474082181120 : UInt64)), .second, .val (.ref b3), .val (.ref b4), .unset, .unset, .unset] [(.double ub), (.int (1 : Int32)), (.ref b4)])) target → Steps p.tables e below (T15.setTop (mkF m 117 #[.val (.int p0), .val (.int p1), .val (.int p2), .val (.int p3), .val (.int p4), .val (.int (0 : Int32)), .val (.int (1 : Int32)), .val (.int (0 : Int32)), .val (.int mn), .val (.int mx), .val (.double (9218868437227405312 : UInt64)), .second, .val (.double (18442240474082181120 : UInt64)), .second, .val (.ref b3), .val (.ref b4), .unset, .unset, .unset] [(.int ((p2 >>> ((2 : Int32) &&& 31)) &&& (1 : Int32))), (.int (1 : Int32)), (.ref b4)])) target := by
    intro target kt
    by_cases hq : ((p2 >>> ((2 : Int32) &&& 31)) &&& (1 : Int32)) = (0 : Int32)
    · rw [if_pos hq] at hj_ub; subst hj_ub
      show Steps p.tables e below (T15.setTop (mkF m 117 #[.val (.int p0), .val (.int p1), .val (.int p2), .val (.int p3), .val (.int p4), .val (.int (0 : Int32)), .val (.int (1 : Int32)), .val (.int (0 : Int32)), .val (.int mn), .val (.int mx), .val (.double (9218868437227405312 : UInt64)), .second, .val (.double (18442240474082181120 : UInt64)), .second, .val (.ref b3), .val (.ref b4), .unset, .unset, .unset] [(.int ((p2 >>> ((2 : Int32) &&& 31)) &&& (1 : Int32))), (.int (1 : Int32)), (.ref b4)])) _
      refine XS.ifYes X15.here hx rfl (pc0 := 117) (pc' := 125) rfl (hb hby at_117) rfl ((if0 _ _).trans (teq hq).1) (by decide) (by decide) ?_
      show Steps p.tables e below (T15.setTop (mkF m 125 #[.val (.int p0), .val (.int p1), .val (.int p2), .val (.int p3), .val (.int p4), .val (.int (0 : Int32)), .val (.int (1 : Int32)), .val (.int (0 : Int32)), .val (.int mn), .val (.int mx), .val (.double (9218868437227405312 : UInt64)), .second, .val (.double (18442240474082181120 : UInt64)), .second, .val (.ref b3), .val (.ref b4), .unset, .unset, .unset] [(.int (1 : Int32)), (.ref b4)])) _
      refine XS.iload X15.here hx rfl (hb hby at_125) rfl ?_
      show Steps p.tables e below (T15.setTop (mkF m 127 #[.val (.int p0), .val (.int p1), .val (.int p2), .val (.int p3), .val (.int p4), .val (.int (0 : Int32)), .val (.int (1 : Int32)), .val (.int (0 : Int32)), .val (.int mn), .val (.int mx), .val (.double (9218868437227405312 : UInt64)), .second, .val (.double (18442240474082181120 : UInt64)), .second, .val (.ref b3), .val (.ref b4), .unset, .unset, .unset] [(.int p4), (.int (1 : Int32)), (.ref b4)])) _
      refine XS.i2dS X15.here hx rfl (hb hby at_127) rfl (v := (FP.i2d p4)) rfl ?_
      show Steps p.tables e below (T15.setTop (mkF m 128 #[.val (.int p0), .val (.int p1), .val (.int p2), .val (.int p3), .val (.int p4), .val (.int (0 : Int32)), .val (.int (1 : Int32)), .val (.int (0 : Int32)), .val (.int mn), .val (.int mx), .val (.double (9218868437227405312 : UInt64)), .second, .val (.double (18442240474082181120 : UInt64)), .second, .val (.ref b3), .val (.ref b4), .unset, .unset, .unset] [(.double (FP.i2d p4)), (.int (1 : Int32)), (.ref b4)])) _
      exact kt
    · rw [if_neg hq] at hj_ub; subst hj_ub
      show Steps p.tables e below (T15.setTop (mkF m 117 #[.val (.int p0), .val (.int p1), .val (.int p2), .val (.int p3), .val (.int p4), .val (.int (0 : Int32)), .val (.int (1 : Int32)), .val (.int (0 : Int32)), .val (.int mn), .val (.int mx), .val (.double (9218868437227405312 : UInt64)), .second, .val (.double (18442240474082181120 : UInt64)), .second, .val (.ref b3), .val (.ref b4), .unset, .unset, .unset] [(.int ((p2 >>> ((2 : Int32) &&& 31)) &&& (1 : Int32))), (.int (1 : Int32)), (.ref b4)])) _
      refine XS.ifNo X15.here hx rfl (hb hby at_117) rfl ((if0 _ _).trans (feq hq).1) ?_
      show Steps p.tables e below (T15.setTop (mkF m 120 #[.val (.int p0), .val (.int p1), .val (.int p2), .val (.int p3), .val (.int p4), .val (.int (0 : Int32)), .val (.int (1 : Int32)), .val (.int (0 : Int32)), .val (.int mn), .val (.int mx), .val (.double (9218868437227405312 : UInt64)), .second, .val (.double (18442240474082181120 : UInt64)), .second, .val (.ref b3), .val (.ref b4), .unset, .unset, .unset] [(.int (1 : Int32)), (.ref b4)])) _
      refine XS.dload X15.here hx rfl (hb hby at_120) rfl ?_
      show Steps p.tables e below (T15.setTop (mkF m 122 #[.val (.int p0), .val (.int p1), .val (.int p2), .val (.int p3), .val (.int p4), .val (.int (0 : Int32)), .val (.int (1 : Int32)), .val (.int (0 : Int32)), .val (.int mn), .val (.int mx), .val (.double (9218868437227405312 : UInt64)), .second, .val (.double (18442240474082181120 : UInt64)), .second, .val (.ref b3), .val (.ref b4), .unset, .unset, .unset] [(.double (9218868437227405312 : UInt64)), (.int (1 : Int32)), (.ref b4)])) _
      refine XS.goto X15.here hx rfl (pc0 := 122) (pc' := 128) rfl (hb hby at_122) (by decide) (by decide) ?_
      show Steps p.tables e below (T15.setTop (mkF m 128 #[.val (.int p0), .val (.int p1), .val (.int p2), .val (.int p3), .val (.int p4), .val (.int (0 : Int32)), .val (.int (1 : Int32)), .val (.int (0 : Int32)), .val (.int mn), .val (.int mx), .val (.double (9218868437227405312 : UInt64)), .second, .val (.double (18442240474082181120 : UInt64)), .second, .val (.ref b3), .val (.ref b4), .unset, .unset, .unset] [(.double (9218868437227405312 : UInt64)), (.int (1 : Int32)), (.ref b4)])) _
      exact kt
  obtain ⟨cq19, Arq19, qq19, Sq19, Nq19, Hq19, Gq19⟩ := id f16
  obtain ⟨T20, h20, X20, e20, W20, st20⟩ := stD X15 hx hZ e15 Arq19 (j := (1 : Int32)) (inb_of Sq19 ⟨by decide, by decide⟩) (g := (mkF m 128 #[.val (.int p0), .val (.int p1), .val (.int p2), .val (.int p3), .val (.int p4), .val (.int (0 : Int32)), .val (.int (1 : Int32)), .val (.int (0 : Int32)), .val (.int mn), .val (.int mx), .val (.double (9218868437227405312 : UInt64)), .second, .val (.double (18442240474082181120 : UInt64)), .second, .val (.ref b3), .val (.ref b4), .unset, .unset, .unset] [(.double ub), (.int (1 : Int32)), (.ref b4)])) rfl rfl (hb hby at_128)
  have f21 := f17.other W20 ne_b3_b4
  have K20 : Keep h0 h20 [] := K15.wr W20 (Or.inr sz_b4)
  have Zs20 := Nat.le_trans Zs15 (Keep.of_wr W20).1
  have N20 := Fr.snoc X20 N15 g_b4
  have f22 : Arv Z h20 b4 k4 .double (2 : Int32) [(.double (FP.i2d mx)), (.double ub)] (.double (0 : UInt64)) := Arv.set Arq19 qq19 Sq19 Nq19 Hq19 Gq19 rfl W20 1 rfl (Nat.le_of_ble_eq_true rfl)
  obtain ⟨T23, h23, X23, e23, E23, A23, D23, -, st23⟩ := newO X20 hx hZ hown (hw _ (List.mem_of_getElem? (i := 10) rfl)) (hw _ (List.mem_of_getElem? (i := 11) rfl)) (hw _ (List.mem_of_getElem? (i := 12) rfl)) e20 (g := (mkF m 129 #[.val (.int p0), .val (.int p1), .val (.int p2), .val (.int p3), .val (.int p4), .val (.int (0 : Int32)), .val (.int (1 : Int32)), .val (.int (0 : Int32)), .val (.int mn), .val (.int mx), .val (.double (9218868437227405312 : UInt64)), .second, .val (.double (18442240474082181120 : UInt64)), .second, .val (.ref b3), .val (.ref b4), .unset, .unset, .unset] [])) rfl (hb hby at_129) (by decide) (by decide)
  obtain ⟨b23, g23⟩ : ∃ z, z = h20.size := ⟨_, rfl⟩
  rw [← g23] at A23 D23 st23
  have ne_b3_b23 : b3 ≠ b23 := Nat.ne_of_lt (Nat.lt_of_lt_of_le f21.lt (Nat.le_of_eq g23.symm))
  have ne_b4_b23 : b4 ≠ b23 := Nat.ne_of_lt (Nat.lt_of_lt_of_le f22.lt (Nat.le_of_eq g23.symm))
  have g_b23 : n0 ≤ b23 := Nat.le_trans Zs20 (Nat.le_of_eq g23.symm)
  have sz_b23 : h0.size ≤ b23 := Nat.le_trans K20.1 (Nat.le_of_eq g23.symm)
  have f24 := f21.ext E23
  have f25 := f22.ext E23
  have K23 : Keep h0 h23 [] := K20.ext E23
  have Zs23 := Nat.le_trans Zs20 E23.1
  have F23_lower : Fld Z h23 b23 "com/example/hedge/hedge/ValueBounds" "lower" "[D" .null := D23 (Or.inr (hw _ (List.mem_of_getElem? (i := 27) rfl))) (ty := (.array .double)) (by decide)
  have F23_upper : Fld Z h23 b23 "com/example/hedge/hedge/ValueBounds" "upper" "[D" .null := D23 (Or.inr (hw _ (List.mem_of_getElem? (i := 29) rfl))) (ty := (.array .double)) (by decide)
  have F23_strategy : Fld Z h23 b23 "com/example/hedge/hedge/ValueBounds" "strategy" "[[I" .null := D23 (Or.inr (hw _ (List.mem_of_getElem? (i := 31) rfl))) (ty := (.array (.array .int))) (by decide)
  obtain ⟨T26, h26, k26, X26, e26, E26, A26, B26, st26⟩ := newPE X23 hx hZ (hw _ (List.mem_of_getElem? (i := 13) rfl)) e23 (g := (mkF m 138 #[.val (.int p0), .val (.int p1), .val (.int p2), .val (.int p3), .val (.int p4), .val (.int (0 : Int32)), .val (.int (1 : Int32)), .val (.int (0 : Int32)), .val (.int mn), .val (.int mx), .val (.double (9218868437227405312 : UInt64)), .second, .val (.double (18442240474082181120 : UInt64)), .second, .val (.ref b3), .val (.ref b4), .unset, .unset, .unset] [(.int (2 : Int32)), (.ref b4), (.ref b3), (.ref b23), (.ref b23)])) rfl (hb hby at_138) rfl (by decide) (cap := 2) (by decide) (by decide) (by decide) (by decide) (ad := "[I") rfl
  obtain ⟨b26, g26⟩ : ∃ z, z = h23.size := ⟨_, rfl⟩
  rw [← g26] at A26 st26 B26
  have ne_b3_b26 : b3 ≠ b26 := Nat.ne_of_lt (Nat.lt_of_lt_of_le f24.lt (Nat.le_of_eq g26.symm))
  have ne_b4_b26 : b4 ≠ b26 := Nat.ne_of_lt (Nat.lt_of_lt_of_le f25.lt (Nat.le_of_eq g26.symm))
  have ne_b23_b26 : b23 ≠ b26 := Nat.ne_of_lt (Nat.lt_of_lt_of_le A23.lt (Nat.le_of_eq g26.symm))
  have g_b26 : n0 ≤ b26 := Nat.le_trans Zs23 (Nat.le_of_eq g26.symm)
  have sz_b26 : h0.size ≤ b26 := Nat.le_trans K23.1 (Nat.le_of_eq g26.symm)
  have f27 := f24.ext E26
  have f28 := f25.ext E26
  have f29 := A23.ext E26
  have f30 := F23_lower.ext E26
  have f31 := F23_upper.ext E26
  have f32 := F23_strategy.ext E26
  have K26 : Keep h0 h26 [] := K23.ext E26
  have Zs26 := Nat.le_trans Zs23 E26.1
  have V26 : Arv Z h26 b26 k26 .int (2 : Int32) [(.int (0 : Int32)), (.int (0 : Int32))] (.int (0 : Int32)) := (Arv.new A26 (by decide)).pad (pad_rep [] (.int (0 : Int32)) 2)
  obtain ⟨cq33, Arq33, qq33, Sq33, Nq33, Hq33, Gq33⟩ := id V26
  obtain ⟨T34, h34, X34, e34, W34, st34⟩ := stI X26 hx hZ e26 Arq33 (j := (0 : Int32)) (inb_of Sq33 ⟨by decide, by decide⟩) (g := (mkF m 143 #[.val (.int p0), .val (.int p1), .val (.int p2), .val (.int p3), .val (.int p4), .val (.int (0 : Int32)), .val (.int (1 : Int32)), .val (.int (0 : Int32)), .val (.int mn), .val (.int mx), .val (.double (9218868437227405312 : UInt64)), .second, .val (.double (18442240474082181120 : UInt64)), .second, .val (.ref b3), .val (.ref b4), .unset, .unset, .unset] [(.int (-1 : Int32)), (.int (0 : Int32)), (.ref b26), (.ref b26), (.ref b4), (.ref b3), (.ref b23), (.ref b23)])) rfl rfl (hb hby at_143)
  have f35 := f27.other W34 ne_b3_b26
  have f36 := f28.other W34 ne_b4_b26
  have f37 := f29.wr W34
  have f38 := f30.other W34 (Or.inl ne_b23_b26)
  have f39 := f31.other W34 (Or.inl ne_b23_b26)
  have f40 := f32.other W34 (Or.inl ne_b23_b26)
  have f41 := B26.wr W34
  have K34 : Keep h0 h34 [] := K26.wr W34 (Or.inr sz_b26)
  have Zs34 := Nat.le_trans Zs26 (Keep.of_wr W34).1
  have N34 := Fr.snoc X34 N20 g_b26
  have f42 : Arv Z h34 b26 k26 .int (2 : Int32) [(.int (-1 : Int32)), (.int (0 : Int32))] (.int (0 : Int32)) := Arv.set Arq33 qq33 Sq33 Nq33 Hq33 Gq33 rfl W34 0 rfl (Nat.le_of_ble_eq_true rfl)
  obtain ⟨cq43, Arq43, qq43, Sq43, Nq43, Hq43, Gq43⟩ := id f42
  obtain ⟨T44, h44, X44, e44, W44, st44⟩ := stI X34 hx hZ e34 Arq43 (j := (1 : Int32)) (inb_of Sq43 ⟨by decide, by decide⟩) (g := (mkF m 147 #[.val (.int p0), .val (.int p1), .val (.int p2), .val (.int p3), .val (.int p4), .val (.int (0 : Int32)), .val (.int (1 : Int32)), .val (.int (0 : Int32)), .val (.int mn), .val (.int mx), .val (.double (9218868437227405312 : UInt64)), .second, .val (.double (18442240474082181120 : UInt64)), .second, .val (.ref b3), .val (.ref b4), .unset, .unset, .unset] [(.int (-1 : Int32)), (.int (1 : Int32)), (.ref b26), (.ref b26), (.ref b4), (.ref b3), (.ref b23), (.ref b23)])) rfl rfl (hb hby at_147)
  have f45 := f35.other W44 ne_b3_b26
  have f46 := f36.other W44 ne_b4_b26
  have f47 := f37.wr W44
  have f48 := f38.other W44 (Or.inl ne_b23_b26)
  have f49 := f39.other W44 (Or.inl ne_b23_b26)
  have f50 := f40.other W44 (Or.inl ne_b23_b26)
  have f51 := f41.wr W44
  have K44 : Keep h0 h44 [] := K34.wr W44 (Or.inr sz_b26)
  have Zs44 := Nat.le_trans Zs34 (Keep.of_wr W44).1
  have N44 := Fr.snoc X44 N34 g_b26
  have f52 : Arv Z h44 b26 k26 .int (2 : Int32) [(.int (-1 : Int32)), (.int (-1 : Int32))] (.int (0 : Int32)) := Arv.set Arq43 qq43 Sq43 Nq43 Hq43 Gq43 rfl W44 1 rfl (Nat.le_of_ble_eq_true rfl)
  obtain ⟨_, _, ⟨T53, L53, k53, n53⟩, -, X53, ⟨Lc53, hQ53, l53, y53, z53⟩, st53⟩ := X44.specialBack hx (y := (⟨"com/example/hedge/hedge/ValueBounds", "<init>", "([D[D[I)V"⟩ : MethodName)) rfl hown (mvT hZ (hw _ (List.mem_of_getElem? (i := 14) rfl))) (mvT hZ (hw _ (List.mem_of_getElem? (i := 15) rfl))) (mvT hZ (hw _ (List.mem_of_getElem? (i := 16) rfl))) (by decide) (backOf (W := 1) (rm3 l Z a0 hw [] b23 b3 b4 b26 h44 n0 Zs44 f47 g_b23 f48 f49 f50 f51) hZ (hw _ (List.mem_of_getElem? (i := 16) rfl)) (hw _ (List.mem_of_getElem? (i := 12) rfl)) (by decide) (by decide)) (g := (mkF m 148 #[.val (.int p0), .val (.int p1), .val (.int p2), .val (.int p3), .val (.int p4), .val (.int (0 : Int32)), .val (.int (1 : Int32)), .val (.int (0 : Int32)), .val (.int mn), .val (.int mx), .val (.double (9218868437227405312 : UInt64)), .second, .val (.double (18442240474082181120 : UInt64)), .second, .val (.ref b3), .val (.ref b4), .unset, .unset, .unset] [(.ref b26), (.ref b4), (.ref b3), (.ref b23), (.ref b23)])) rfl (by rw [hml]; rfl) (Steps.refl _) (a := b23) (argsL := [(.ref b3), (.ref b4), (.ref b26)]) (rest := [(.ref b23)]) (lenOf pd_2 rfl) rfl (by show 2 * 0 + _ ≤ _; exact Nat.le_of_eq rfl) (hb hby at_148) (fun _ _ => ⟨rfl, e44, (by decide : 4 + 1 ≤ _), (by decide : 9 + 1 ≤ _)⟩)
  dsimp only [Pt.U, Pt.locs, Pt.cells, Pt.slots] at X53 l53 y53 z53 st53 hQ53
  subst l53 y53 z53
  obtain ⟨rfl, N53q, K53q, f54, f55, f56⟩ := hQ53
  have N53 := Fr.app N44 N53q
  have f57 := f45.keep K53q (own_niS ne_b3_b23 own_ni0)
  have f58 := f46.keep K53q (own_niS ne_b4_b23 own_ni0)
  have f59 := f47.keep K53q
  have f60 := f52.keep K53q (own_niS (Ne.symm ne_b23_b26) own_ni0)
  have f61 := f51.keep K53q
  have K53 : Keep h0 T53.heap [] := K44.trans K53q (own_allS (Or.inr sz_b23) own_all0)
  have Zs53 := Nat.le_trans Zs44 K53q.1
  obtain ⟨cq62, kq62, q62a, q62b, q62c⟩ := isOf hZ rfl f54
  obtain ⟨_, _, ⟨T62, L62, k62, n62⟩, -, X62, ⟨Lc62, hQ62, l62, y62, z62⟩, st62⟩ := X53.virtualBack hx (y := (⟨"com/example/hedge/hedge/ValueBounds", "value", "(I)D"⟩ : MethodName)) (z := (⟨"com/example/hedge/hedge/ValueBounds", "value", "(I)D"⟩ : MethodName)) hown (mvT hZ (hw _ (List.mem_of_getElem? (i := 32) rfl))) (mvT hZ (hw _ (List.mem_of_getElem? (i := 33) rfl))) (notFace_of_selects (args := #[]) (mvT hZ (hw _ (List.mem_of_getElem? (i := 35) rfl)))) (mvT hZ (hw _ (List.mem_of_getElem? (i := 35) rfl))) (mvT hZ (hw _ (List.mem_of_getElem? (i := 34) rfl))) (by decide) (backOf (W := 0) (rm6_0f l Z a0 hw [] b23 b3 b4 k3 k4 (FP.i2d mn) (FP.i2d p4) (FP.i2d mx) ub T53.heap n0 Zs53 f55 f56 f57 f58 hd9_157 nn32_157 nn36_157) hZ (hw _ (List.mem_of_getElem? (i := 36) rfl)) (hw _ (List.mem_of_getElem? (i := 12) rfl)) (by decide) (by decide)) q62a q62c (g := (mkF m 157 #[.val (.int p0), .val (.int p1), .val (.int p2), .val (.int p3), .val (.int p4), .val (.int (0 : Int32)), .val (.int (1 : Int32)), .val (.int (0 : Int32)), .val (.int mn), .val (.int mx), .val (.double (9218868437227405312 : UInt64)), .second, .val (.double (18442240474082181120 : UInt64)), .second, .val (.ref b3), .val (.ref b4), .val (.ref b23), .unset, .unset] [(.int (0 : Int32)), (.ref b23)])) rfl (by rw [hml]; rfl) (Steps.refl _) (argsL := [(.int (0 : Int32))]) (rest := []) (lenOf pd_3 rfl) rfl (by show 2 * 0 + _ ≤ _; exact Nat.le_of_eq rfl) (hb hby at_157) (fun _ _ => ⟨rfl, rfl, (by decide : 5 + 0 ≤ _), (by decide : 10 + 0 ≤ _)⟩)
  dsimp only [Pt.U, Pt.locs, Pt.cells, Pt.slots] at X62 l62 y62 z62 st62 hQ62
  subst l62 y62 z62
  obtain ⟨rfl, N62q, eh62⟩ := hQ62
  have N62 := Fr.app N53 N62q
  have e62 : T62.heap = T53.heap := eh62
  obtain ⟨fs, hr, hrun, hended, hW, hsame⟩ := X62.leave (v := some (.int (1 : Int32))) (fun h => by rw [Bd.returns] at h; cases h)
  refine ⟨_, _, pre0 _ ?_, hrun, hended, _, _, rfl, ?_, ⟨_, rfl⟩, hW, hsame.mono (by decide) (by decide)⟩
  · show Steps p.tables e below (s₁.setTop (mkF m 0 #[.val (.int p0), .val (.int p1), .val (.int p2), .val (.int p3), .val (.int p4), .unset, .unset, .unset, .unset, .unset, .unset, .unset, .unset, .unset, .unset, .unset, .unset, .unset, .unset] [])) _
    refine XS.iloadN X0.here hx rfl (hb hby at_0) rfl ?_
    show Steps p.tables e below (s₁.setTop (mkF m 1 #[.val (.int p0), .val (.int p1), .val (.int p2), .val (.int p3), .val (.int p4), .unset, .unset, .unset, .unset, .unset, .unset, .unset, .unset, .unset, .unset, .unset, .unset, .unset, .unset] [(.int p3)])) _
    refine XS.iconst X0.here hx rfl (hb hby at_1) ?_
    show Steps p.tables e below (s₁.setTop (mkF m 2 #[.val (.int p0), .val (.int p1), .val (.int p2), .val (.int p3), .val (.int p4), .unset, .unset, .unset, .unset, .unset, .unset, .unset, .unset, .unset, .unset, .unset, .unset, .unset, .unset] [(.int (1 : Int32)), (.int p3)])) _
    refine XS.iand X0.here hx rfl (hb hby at_2) rfl ?_
    show Steps p.tables e below (s₁.setTop (mkF m 3 #[.val (.int p0), .val (.int p1), .val (.int p2), .val (.int p3), .val (.int p4), .unset, .unset, .unset, .unset, .unset, .unset, .unset, .unset, .unset, .unset, .unset, .unset, .unset, .unset] [(.int (p3 &&& (1 : Int32)))])) _
    rw [hv2]
    show Steps p.tables e below (s₁.setTop (mkF m 3 #[.val (.int p0), .val (.int p1), .val (.int p2), .val (.int p3), .val (.int p4), .unset, .unset, .unset, .unset, .unset, .unset, .unset, .unset, .unset, .unset, .unset, .unset, .unset, .unset] [(.int (0 : Int32))])) _
    refine XS.istore X0.here hx rfl (hb hby at_3) rfl (l' := #[.val (.int p0), .val (.int p1), .val (.int p2), .val (.int p3), .val (.int p4), .val (.int (0 : Int32)), .unset, .unset, .unset, .unset, .unset, .unset, .unset, .unset, .unset, .unset, .unset, .unset, .unset]) rfl ?_
    show Steps p.tables e below (s₁.setTop (mkF m 5 #[.val (.int p0), .val (.int p1), .val (.int p2), .val (.int p3), .val (.int p4), .val (.int (0 : Int32)), .unset, .unset, .unset, .unset, .unset, .unset, .unset, .unset, .unset, .unset, .unset, .unset, .unset] [])) _
    refine XS.iconst X0.here hx rfl (hb hby at_5) ?_
    show Steps p.tables e below (s₁.setTop (mkF m 6 #[.val (.int p0), .val (.int p1), .val (.int p2), .val (.int p3), .val (.int p4), .val (.int (0 : Int32)), .unset, .unset, .unset, .unset, .unset, .unset, .unset, .unset, .unset, .unset, .unset, .unset, .unset] [(.int (1 : Int32))])) _
    refine XS.iload X0.here hx rfl (hb hby at_6) rfl ?_
    show Steps p.tables e below (s₁.setTop (mkF m 8 #[.val (.int p0), .val (.int p1), .val (.int p2), .val (.int p3), .val (.int p4), .val (.int (0 : Int32)), .unset, .unset, .unset, .unset, .unset, .unset, .unset, .unset, .unset, .unset, .unset, .unset, .unset] [(.int (0 : Int32)), (.int (1 : Int32))])) _
    refine XS.isub X0.here hx rfl (hb hby at_8) rfl ?_
    show Steps p.tables e below (s₁.setTop (mkF m 9 #[.val (.int p0), .val (.int p1), .val (.int p2), .val (.int p3), .val (.int p4), .val (.int (0 : Int32)), .unset, .unset, .unset, .unset, .unset, .unset, .unset, .unset, .unset, .unset, .unset, .unset, .unset] [(.int ((1 : Int32) - (0 : Int32)))])) _
    rw [show ((1 : Int32) - (0 : Int32)) = (1 : Int32) by decide]
    show Steps p.tables e below (s₁.setTop (mkF m 9 #[.val (.int p0), .val (.int p1), .val (.int p2), .val (.int p3), .val (.int p4), .val (.int (0 : Int32)), .unset, .unset, .unset, .unset, .unset, .unset, .unset, .unset, .unset, .unset, .unset, .unset, .unset] [(.int (1 : Int32))])) _
    refine XS.istore X0.here hx rfl (hb hby at_9) rfl (l' := #[.val (.int p0), .val (.int p1), .val (.int p2), .val (.int p3), .val (.int p4), .val (.int (0 : Int32)), .val (.int (1 : Int32)), .unset, .unset, .unset, .unset, .unset, .unset, .unset, .unset, .unset, .unset, .unset, .unset]) rfl ?_
    show Steps p.tables e below (s₁.setTop (mkF m 11 #[.val (.int p0), .val (.int p1), .val (.int p2), .val (.int p3), .val (.int p4), .val (.int (0 : Int32)), .val (.int (1 : Int32)), .unset, .unset, .unset, .unset, .unset, .unset, .unset, .unset, .unset, .unset, .unset, .unset] [])) _
    refine XS.iloadN X0.here hx rfl (hb hby at_11) rfl ?_
    show Steps p.tables e below (s₁.setTop (mkF m 12 #[.val (.int p0), .val (.int p1), .val (.int p2), .val (.int p3), .val (.int p4), .val (.int (0 : Int32)), .val (.int (1 : Int32)), .unset, .unset, .unset, .unset, .unset, .unset, .unset, .unset, .unset, .unset, .unset, .unset] [(.int p2)])) _
    refine XS.iconst X0.here hx rfl (hb hby at_12) ?_
    show Steps p.tables e below (s₁.setTop (mkF m 13 #[.val (.int p0), .val (.int p1), .val (.int p2), .val (.int p3), .val (.int p4), .val (.int (0 : Int32)), .val (.int (1 : Int32)), .unset, .unset, .unset, .unset, .unset, .unset, .unset, .unset, .unset, .unset, .unset, .unset] [(.int (3 : Int32)), (.int p2)])) _
    refine XS.iand X0.here hx rfl (hb hby at_13) rfl ?_
    show Steps p.tables e below (s₁.setTop (mkF m 14 #[.val (.int p0), .val (.int p1), .val (.int p2), .val (.int p3), .val (.int p4), .val (.int (0 : Int32)), .val (.int (1 : Int32)), .unset, .unset, .unset, .unset, .unset, .unset, .unset, .unset, .unset, .unset, .unset, .unset] [(.int (p2 &&& (3 : Int32)))])) _
    rw [hv13]
    show Steps p.tables e below (s₁.setTop (mkF m 14 #[.val (.int p0), .val (.int p1), .val (.int p2), .val (.int p3), .val (.int p4), .val (.int (0 : Int32)), .val (.int (1 : Int32)), .unset, .unset, .unset, .unset, .unset, .unset, .unset, .unset, .unset, .unset, .unset, .unset] [(.int (0 : Int32))])) _
    refine XS.istore X0.here hx rfl (hb hby at_14) rfl (l' := #[.val (.int p0), .val (.int p1), .val (.int p2), .val (.int p3), .val (.int p4), .val (.int (0 : Int32)), .val (.int (1 : Int32)), .val (.int (0 : Int32)), .unset, .unset, .unset, .unset, .unset, .unset, .unset, .unset, .unset, .unset, .unset]) rfl ?_
    show Steps p.tables e below (s₁.setTop (mkF m 16 #[.val (.int p0), .val (.int p1), .val (.int p2), .val (.int p3), .val (.int p4), .val (.int (0 : Int32)), .val (.int (1 : Int32)), .val (.int (0 : Int32)), .unset, .unset, .unset, .unset, .unset, .unset, .unset, .unset, .unset, .unset, .unset] [])) _
    refine XS.iloadN X0.here hx rfl (hb hby at_16) rfl ?_
    show Steps p.tables e below (s₁.setTop (mkF m 17 #[.val (.int p0), .val (.int p1), .val (.int p2), .val (.int p3), .val (.int p4), .val (.int (0 : Int32)), .val (.int (1 : Int32)), .val (.int (0 : Int32)), .unset, .unset, .unset, .unset, .unset, .unset, .unset, .unset, .unset, .unset, .unset] [(.int p0)])) _
    refine XS.iloadN X0.here hx rfl (hb hby at_17) rfl ?_
    show Steps p.tables e below (s₁.setTop (mkF m 18 #[.val (.int p0), .val (.int p1), .val (.int p2), .val (.int p3), .val (.int p4), .val (.int (0 : Int32)), .val (.int (1 : Int32)), .val (.int (0 : Int32)), .unset, .unset, .unset, .unset, .unset, .unset, .unset, .unset, .unset, .unset, .unset] [(.int p1), (.int p0)])) _
    refine st1 _ ?_
    show Steps p.tables e below (T1.setTop (mkF m 21 #[.val (.int p0), .val (.int p1), .val (.int p2), .val (.int p3), .val (.int p4), .val (.int (0 : Int32)), .val (.int (1 : Int32)), .val (.int (0 : Int32)), .unset, .unset, .unset, .unset, .unset, .unset, .unset, .unset, .unset, .unset, .unset] [(.int mn)])) _
    refine XS.istore X1.here hx rfl (hb hby at_21) rfl (l' := #[.val (.int p0), .val (.int p1), .val (.int p2), .val (.int p3), .val (.int p4), .val (.int (0 : Int32)), .val (.int (1 : Int32)), .val (.int (0 : Int32)), .val (.int mn), .unset, .unset, .unset, .unset, .unset, .unset, .unset, .unset, .unset, .unset]) rfl ?_
    show Steps p.tables e below (T1.setTop (mkF m 23 #[.val (.int p0), .val (.int p1), .val (.int p2), .val (.int p3), .val (.int p4), .val (.int (0 : Int32)), .val (.int (1 : Int32)), .val (.int (0 : Int32)), .val (.int mn), .unset, .unset, .unset, .unset, .unset, .unset, .unset, .unset, .unset, .unset] [])) _
    refine XS.iloadN X1.here hx rfl (hb hby at_23) rfl ?_
    show Steps p.tables e below (T1.setTop (mkF m 24 #[.val (.int p0), .val (.int p1), .val (.int p2), .val (.int p3), .val (.int p4), .val (.int (0 : Int32)), .val (.int (1 : Int32)), .val (.int (0 : Int32)), .val (.int mn), .unset, .unset, .unset, .unset, .unset, .unset, .unset, .unset, .unset, .unset] [(.int p0)])) _
    refine XS.iloadN X1.here hx rfl (hb hby at_24) rfl ?_
    show Steps p.tables e below (T1.setTop (mkF m 25 #[.val (.int p0), .val (.int p1), .val (.int p2), .val (.int p3), .val (.int p4), .val (.int (0 : Int32)), .val (.int (1 : Int32)), .val (.int (0 : Int32)), .val (.int mn), .unset, .unset, .unset, .unset, .unset, .unset, .unset, .unset, .unset, .unset] [(.int p1), (.int p0)])) _
    refine st2 _ ?_
    show Steps p.tables e below (T2.setTop (mkF m 28 #[.val (.int p0), .val (.int p1), .val (.int p2), .val (.int p3), .val (.int p4), .val (.int (0 : Int32)), .val (.int (1 : Int32)), .val (.int (0 : Int32)), .val (.int mn), .unset, .unset, .unset, .unset, .unset, .unset, .unset, .unset, .unset, .unset] [(.int mx)])) _
    refine XS.istore X2.here hx rfl (hb hby at_28) rfl (l' := #[.val (.int p0), .val (.int p1), .val (.int p2), .val (.int p3), .val (.int p4), .val (.int (0 : Int32)), .val (.int (1 : Int32)), .val (.int (0 : Int32)), .val (.int mn), .val (.int mx), .unset, .unset, .unset, .unset, .unset, .unset, .unset, .unset, .unset]) rfl ?_
    show Steps p.tables e below (T2.setTop (mkF m 30 #[.val (.int p0), .val (.int p1), .val (.int p2), .val (.int p3), .val (.int p4), .val (.int (0 : Int32)), .val (.int (1 : Int32)), .val (.int (0 : Int32)), .val (.int mn), .val (.int mx), .unset, .unset, .unset, .unset, .unset, .unset, .unset, .unset, .unset] [])) _
    refine X2.ldc2DoubleC hx hown (mvT hZ (hw _ (List.mem_of_getElem? (i := 7) rfl))) (g := (mkF m 30 #[.val (.int p0), .val (.int p1), .val (.int p2), .val (.int p3), .val (.int p4), .val (.int (0 : Int32)), .val (.int (1 : Int32)), .val (.int (0 : Int32)), .val (.int mn), .val (.int mx), .unset, .unset, .unset, .unset, .unset, .unset, .unset, .unset, .unset] [])) rfl (hb hby at_30) _ ?_
    show Steps p.tables e below (T2.setTop (mkF m 33 #[.val (.int p0), .val (.int p1), .val (.int p2), .val (.int p3), .val (.int p4), .val (.int (0 : Int32)), .val (.int (1 : Int32)), .val (.int (0 : Int32)), .val (.int mn), .val (.int mx), .unset, .unset, .unset, .unset, .unset, .unset, .unset, .unset, .unset] [(.double (9218868437227405312 : UInt64))])) _
    refine XS.dstore X2.here hx rfl (hb hby at_33) rfl (l' := #[.val (.int p0), .val (.int p1), .val (.int p2), .val (.int p3), .val (.int p4), .val (.int (0 : Int32)), .val (.int (1 : Int32)), .val (.int (0 : Int32)), .val (.int mn), .val (.int mx), .val (.double (9218868437227405312 : UInt64)), .second, .unset, .unset, .unset, .unset, .unset, .unset, .unset]) rfl ?_
    show Steps p.tables e below (T2.setTop (mkF m 35 #[.val (.int p0), .val (.int p1), .val (.int p2), .val (.int p3), .val (.int p4), .val (.int (0 : Int32)), .val (.int (1 : Int32)), .val (.int (0 : Int32)), .val (.int mn), .val (.int mx), .val (.double (9218868437227405312 : UInt64)), .second, .unset, .unset, .unset, .unset, .unset, .unset, .unset] [])) _
    refine X2.ldc2DoubleC hx hown (mvT hZ (hw _ (List.mem_of_getElem? (i := 8) rfl))) (g := (mkF m 35 #[.val (.int p0), .val (.int p1), .val (.int p2), .val (.int p3), .val (.int p4), .val (.int (0 : Int32)), .val (.int (1 : Int32)), .val (.int (0 : Int32)), .val (.int mn), .val (.int mx), .val (.double (9218868437227405312 : UInt64)), .second, .unset, .unset, .unset, .unset, .unset, .unset, .unset] [])) rfl (hb hby at_35) _ ?_
    show Steps p.tables e below (T2.setTop (mkF m 38 #[.val (.int p0), .val (.int p1), .val (.int p2), .val (.int p3), .val (.int p4), .val (.int (0 : Int32)), .val (.int (1 : Int32)), .val (.int (0 : Int32)), .val (.int mn), .val (.int mx), .val (.double (9218868437227405312 : UInt64)), .second, .unset, .unset, .unset, .unset, .unset, .unset, .unset] [(.double (18442240474082181120 : UInt64))])) _
    refine XS.dstore X2.here hx rfl (hb hby at_38) rfl (l' := #[.val (.int p0), .val (.int p1), .val (.int p2), .val (.int p3), .val (.int p4), .val (.int (0 : Int32)), .val (.int (1 : Int32)), .val (.int (0 : Int32)), .val (.int mn), .val (.int mx), .val (.double (9218868437227405312 : UInt64)), .second, .val (.double (18442240474082181120 : UInt64)), .second, .unset, .unset, .unset, .unset, .unset]) rfl ?_
    show Steps p.tables e below (T2.setTop (mkF m 40 #[.val (.int p0), .val (.int p1), .val (.int p2), .val (.int p3), .val (.int p4), .val (.int (0 : Int32)), .val (.int (1 : Int32)), .val (.int (0 : Int32)), .val (.int mn), .val (.int mx), .val (.double (9218868437227405312 : UInt64)), .second, .val (.double (18442240474082181120 : UInt64)), .second, .unset, .unset, .unset, .unset, .unset] [])) _
    refine XS.iconst X2.here hx rfl (hb hby at_40) ?_
    show Steps p.tables e below (T2.setTop (mkF m 41 #[.val (.int p0), .val (.int p1), .val (.int p2), .val (.int p3), .val (.int p4), .val (.int (0 : Int32)), .val (.int (1 : Int32)), .val (.int (0 : Int32)), .val (.int mn), .val (.int mx), .val (.double (9218868437227405312 : UInt64)), .second, .val (.double (18442240474082181120 : UInt64)), .second, .unset, .unset, .unset, .unset, .unset] [(.int (2 : Int32))])) _
    refine st3 _ ?_
    show Steps p.tables e below (T3.setTop (mkF m 43 #[.val (.int p0), .val (.int p1), .val (.int p2), .val (.int p3), .val (.int p4), .val (.int (0 : Int32)), .val (.int (1 : Int32)), .val (.int (0 : Int32)), .val (.int mn), .val (.int mx), .val (.double (9218868437227405312 : UInt64)), .second, .val (.double (18442240474082181120 : UInt64)), .second, .unset, .unset, .unset, .unset, .unset] [(.ref b3)])) _
    refine XS.astore X3.here hx rfl (hb hby at_43) rfl rfl (l' := #[.val (.int p0), .val (.int p1), .val (.int p2), .val (.int p3), .val (.int p4), .val (.int (0 : Int32)), .val (.int (1 : Int32)), .val (.int (0 : Int32)), .val (.int mn), .val (.int mx), .val (.double (9218868437227405312 : UInt64)), .second, .val (.double (18442240474082181120 : UInt64)), .second, .val (.ref b3), .unset, .unset, .unset, .unset]) rfl ?_
    show Steps p.tables e below (T3.setTop (mkF m 45 #[.val (.int p0), .val (.int p1), .val (.int p2), .val (.int p3), .val (.int p4), .val (.int (0 : Int32)), .val (.int (1 : Int32)), .val (.int (0 : Int32)), .val (.int mn), .val (.int mx), .val (.double (9218868437227405312 : UInt64)), .second, .val (.double (18442240474082181120 : UInt64)), .second, .val (.ref b3), .unset, .unset, .unset, .unset] [])) _
    refine XS.iconst X3.here hx rfl (hb hby at_45) ?_
    show Steps p.tables e below (T3.setTop (mkF m 46 #[.val (.int p0), .val (.int p1), .val (.int p2), .val (.int p3), .val (.int p4), .val (.int (0 : Int32)), .val (.int (1 : Int32)), .val (.int (0 : Int32)), .val (.int mn), .val (.int mx), .val (.double (9218868437227405312 : UInt64)), .second, .val (.double (18442240474082181120 : UInt64)), .second, .val (.ref b3), .unset, .unset, .unset, .unset] [(.int (2 : Int32))])) _
    refine st4 _ ?_
    show Steps p.tables e below (T4.setTop (mkF m 48 #[.val (.int p0), .val (.int p1), .val (.int p2), .val (.int p3), .val (.int p4), .val (.int (0 : Int32)), .val (.int (1 : Int32)), .val (.int (0 : Int32)), .val (.int mn), .val (.int mx), .val (.double (9218868437227405312 : UInt64)), .second, .val (.double (18442240474082181120 : UInt64)), .second, .val (.ref b3), .unset, .unset, .unset, .unset] [(.ref b4)])) _
    refine XS.astore X4.here hx rfl (hb hby at_48) rfl rfl (l' := #[.val (.int p0), .val (.int p1), .val (.int p2), .val (.int p3), .val (.int p4), .val (.int (0 : Int32)), .val (.int (1 : Int32)), .val (.int (0 : Int32)), .val (.int mn), .val (.int mx), .val (.double (9218868437227405312 : UInt64)), .second, .val (.double (18442240474082181120 : UInt64)), .second, .val (.ref b3), .val (.ref b4), .unset, .unset, .unset]) rfl ?_
    show Steps p.tables e below (T4.setTop (mkF m 50 #[.val (.int p0), .val (.int p1), .val (.int p2), .val (.int p3), .val (.int p4), .val (.int (0 : Int32)), .val (.int (1 : Int32)), .val (.int (0 : Int32)), .val (.int mn), .val (.int mx), .val (.double (9218868437227405312 : UInt64)), .second, .val (.double (18442240474082181120 : UInt64)), .second, .val (.ref b3), .val (.ref b4), .unset, .unset, .unset] [])) _
    refine XS.aload X4.here hx rfl (hb hby at_50) rfl rfl ?_
    show Steps p.tables e below (T4.setTop (mkF m 52 #[.val (.int p0), .val (.int p1), .val (.int p2), .val (.int p3), .val (.int p4), .val (.int (0 : Int32)), .val (.int (1 : Int32)), .val (.int (0 : Int32)), .val (.int mn), .val (.int mx), .val (.double (9218868437227405312 : UInt64)), .second, .val (.double (18442240474082181120 : UInt64)), .second, .val (.ref b3), .val (.ref b4), .unset, .unset, .unset] [(.ref b3)])) _
    refine XS.iload X4.here hx rfl (hb hby at_52) rfl ?_
    show Steps p.tables e below (T4.setTop (mkF m 54 #[.val (.int p0), .val (.int p1), .val (.int p2), .val (.int p3), .val (.int p4), .val (.int (0 : Int32)), .val (.int (1 : Int32)), .val (.int (0 : Int32)), .val (.int mn), .val (.int mx), .val (.double (9218868437227405312 : UInt64)), .second, .val (.double (18442240474082181120 : UInt64)), .second, .val (.ref b3), .val (.ref b4), .unset, .unset, .unset] [(.int (0 : Int32)), (.ref b3)])) _
    refine XS.iload X4.here hx rfl (hb hby at_54) rfl ?_
    show Steps p.tables e below (T4.setTop (mkF m 56 #[.val (.int p0), .val (.int p1), .val (.int p2), .val (.int p3), .val (.int p4), .val (.int (0 : Int32)), .val (.int (1 : Int32)), .val (.int (0 : Int32)), .val (.int mn), .val (.int mx), .val (.double (9218868437227405312 : UInt64)), .second, .val (.double (18442240474082181120 : UInt64)), .second, .val (.ref b3), .val (.ref b4), .unset, .unset, .unset] [(.int (0 : Int32)), (.int (0 : Int32)), (.ref b3)])) _
    refine XS.iconst X4.here hx rfl (hb hby at_56) ?_
    show Steps p.tables e below (T4.setTop (mkF m 57 #[.val (.int p0), .val (.int p1), .val (.int p2), .val (.int p3), .val (.int p4), .val (.int (0 : Int32)), .val (.int (1 : Int32)), .val (.int (0 : Int32)), .val (.int mn), .val (.int mx), .val (.double (9218868437227405312 : UInt64)), .second, .val (.double (18442240474082181120 : UInt64)), .second, .val (.ref b3), .val (.ref b4), .unset, .unset, .unset] [(.int (2 : Int32)), (.int (0 : Int32)), (.int (0 : Int32)), (.ref b3)])) _
    refine XS.icmpNo X4.here hx rfl (hb hby at_57) rfl (feq (by decide : ¬ ((0 : Int32) = (2 : Int32)))).1 ?_
    show Steps p.tables e below (T4.setTop (mkF m 60 #[.val (.int p0), .val (.int p1), .val (.int p2), .val (.int p3), .val (.int p4), .val (.int (0 : Int32)), .val (.int (1 : Int32)), .val (.int (0 : Int32)), .val (.int mn), .val (.int mx), .val (.double (9218868437227405312 : UInt64)), .second, .val (.double (18442240474082181120 : UInt64)), .second, .val (.ref b3), .val (.ref b4), .unset, .unset, .unset] [(.int (0 : Int32)), (.ref b3)])) _
    refine XS.iload X4.here hx rfl (hb hby at_60) rfl ?_
    show Steps p.tables e below (T4.setTop (mkF m 62 #[.val (.int p0), .val (.int p1), .val (.int p2), .val (.int p3), .val (.int p4), .val (.int (0 : Int32)), .val (.int (1 : Int32)), .val (.int (0 : Int32)), .val (.int mn), .val (.int mx), .val (.double (9218868437227405312 : UInt64)), .second, .val (.double (18442240474082181120 : UInt64)), .second, .val (.ref b3), .val (.ref b4), .unset, .unset, .unset] [(.int (0 : Int32)), (.int (0 : Int32)), (.ref b3)])) _
    refine XS.iconst X4.here hx rfl (hb hby at_62) ?_
    show Steps p.tables e below (T4.setTop (mkF m 63 #[.val (.int p0), .val (.int p1), .val (.int p2), .val (.int p3), .val (.int p4), .val (.int (0 : Int32)), .val (.int (1 : Int32)), .val (.int (0 : Int32)), .val (.int mn), .val (.int mx), .val (.double (9218868437227405312 : UInt64)), .second, .val (.double (18442240474082181120 : UInt64)), .second, .val (.ref b3), .val (.ref b4), .unset, .unset, .unset] [(.int (3 : Int32)), (.int (0 : Int32)), (.int (0 : Int32)), (.ref b3)])) _
    refine XS.icmpYes X4.here hx rfl (pc0 := 63) (pc' := 71) rfl (hb hby at_63) rfl (feq (by decide : ¬ ((0 : Int32) = (3 : Int32)))).2 (by decide) (by decide) ?_
    show Steps p.tables e below (T4.setTop (mkF m 71 #[.val (.int p0), .val (.int p1), .val (.int p2), .val (.int p3), .val (.int p4), .val (.int (0 : Int32)), .val (.int (1 : Int32)), .val (.int (0 : Int32)), .val (.int mn), .val (.int mx), .val (.double (9218868437227405312 : UInt64)), .second, .val (.double (18442240474082181120 : UInt64)), .second, .val (.ref b3), .val (.ref b4), .unset, .unset, .unset] [(.int (0 : Int32)), (.ref b3)])) _
    refine XS.iload X4.here hx rfl (hb hby at_71) rfl ?_
    show Steps p.tables e below (T4.setTop (mkF m 73 #[.val (.int p0), .val (.int p1), .val (.int p2), .val (.int p3), .val (.int p4), .val (.int (0 : Int32)), .val (.int (1 : Int32)), .val (.int (0 : Int32)), .val (.int mn), .val (.int mx), .val (.double (9218868437227405312 : UInt64)), .second, .val (.double (18442240474082181120 : UInt64)), .second, .val (.ref b3), .val (.ref b4), .unset, .unset, .unset] [(.int mn), (.int (0 : Int32)), (.ref b3)])) _
    refine XS.i2dS X4.here hx rfl (hb hby at_73) rfl (v := (FP.i2d mn)) rfl ?_
    show Steps p.tables e below (T4.setTop (mkF m 74 #[.val (.int p0), .val (.int p1), .val (.int p2), .val (.int p3), .val (.int p4), .val (.int (0 : Int32)), .val (.int (1 : Int32)), .val (.int (0 : Int32)), .val (.int mn), .val (.int mx), .val (.double (9218868437227405312 : UInt64)), .second, .val (.double (18442240474082181120 : UInt64)), .second, .val (.ref b3), .val (.ref b4), .unset, .unset, .unset] [(.double (FP.i2d mn)), (.int (0 : Int32)), (.ref b3)])) _
    refine st7 _ ?_
    show Steps p.tables e below (T7.setTop (mkF m 75 #[.val (.int p0), .val (.int p1), .val (.int p2), .val (.int p3), .val (.int p4), .val (.int (0 : Int32)), .val (.int (1 : Int32)), .val (.int (0 : Int32)), .val (.int mn), .val (.int mx), .val (.double (9218868437227405312 : UInt64)), .second, .val (.double (18442240474082181120 : UInt64)), .second, .val (.ref b3), .val (.ref b4), .unset, .unset, .unset] [])) _
    refine XS.aload X7.here hx rfl (hb hby at_75) rfl rfl ?_
    show Steps p.tables e below (T7.setTop (mkF m 77 #[.val (.int p0), .val (.int p1), .val (.int p2), .val (.int p3), .val (.int p4), .val (.int (0 : Int32)), .val (.int (1 : Int32)), .val (.int (0 : Int32)), .val (.int mn), .val (.int mx), .val (.double (9218868437227405312 : UInt64)), .second, .val (.double (18442240474082181120 : UInt64)), .second, .val (.ref b3), .val (.ref b4), .unset, .unset, .unset] [(.ref b4)])) _
    refine XS.iload X7.here hx rfl (hb hby at_77) rfl ?_
    show Steps p.tables e below (T7.setTop (mkF m 79 #[.val (.int p0), .val (.int p1), .val (.int p2), .val (.int p3), .val (.int p4), .val (.int (0 : Int32)), .val (.int (1 : Int32)), .val (.int (0 : Int32)), .val (.int mn), .val (.int mx), .val (.double (9218868437227405312 : UInt64)), .second, .val (.double (18442240474082181120 : UInt64)), .second, .val (.ref b3), .val (.ref b4), .unset, .unset, .unset] [(.int (0 : Int32)), (.ref b4)])) _
    refine XS.iload X7.here hx rfl (hb hby at_79) rfl ?_
    show Steps p.tables e below (T7.setTop (mkF m 81 #[.val (.int p0), .val (.int p1), .val (.int p2), .val (.int p3), .val (.int p4), .val (.int (0 : Int32)), .val (.int (1 : Int32)), .val (.int (0 : Int32)), .val (.int mn), .val (.int mx), .val (.double (9218868437227405312 : UInt64)), .second, .val (.double (18442240474082181120 : UInt64)), .second, .val (.ref b3), .val (.ref b4), .unset, .unset, .unset] [(.int (0 : Int32)), (.int (0 : Int32)), (.ref b4)])) _
    refine XS.iconst X7.here hx rfl (hb hby at_81) ?_
    show Steps p.tables e below (T7.setTop (mkF m 82 #[.val (.int p0), .val (.int p1), .val (.int p2), .val (.int p3), .val (.int p4), .val (.int (0 : Int32)), .val (.int (1 : Int32)), .val (.int (0 : Int32)), .val (.int mn), .val (.int mx), .val (.double (9218868437227405312 : UInt64)), .second, .val (.double (18442240474082181120 : UInt64)), .second, .val (.ref b3), .val (.ref b4), .unset, .unset, .unset] [(.int (1 : Int32)), (.int (0 : Int32)), (.int (0 : Int32)), (.ref b4)])) _
    refine XS.icmpNo X7.here hx rfl (hb hby at_82) rfl (feq (by decide : ¬ ((0 : Int32) = (1 : Int32)))).1 ?_
    show Steps p.tables e below (T7.setTop (mkF m 85 #[.val (.int p0), .val (.int p1), .val (.int p2), .val (.int p3), .val (.int p4), .val (.int (0 : Int32)), .val (.int (1 : Int32)), .val (.int (0 : Int32)), .val (.int mn), .val (.int mx), .val (.double (9218868437227405312 : UInt64)), .second, .val (.double (18442240474082181120 : UInt64)), .second, .val (.ref b3), .val (.ref b4), .unset, .unset, .unset] [(.int (0 : Int32)), (.ref b4)])) _
    refine XS.iload X7.here hx rfl (hb hby at_85) rfl ?_
    show Steps p.tables e below (T7.setTop (mkF m 87 #[.val (.int p0), .val (.int p1), .val (.int p2), .val (.int p3), .val (.int p4), .val (.int (0 : Int32)), .val (.int (1 : Int32)), .val (.int (0 : Int32)), .val (.int mn), .val (.int mx), .val (.double (9218868437227405312 : UInt64)), .second, .val (.double (18442240474082181120 : UInt64)), .second, .val (.ref b3), .val (.ref b4), .unset, .unset, .unset] [(.int (0 : Int32)), (.int (0 : Int32)), (.ref b4)])) _
    refine XS.iconst X7.here hx rfl (hb hby at_87) ?_
    show Steps p.tables e below (T7.setTop (mkF m 88 #[.val (.int p0), .val (.int p1), .val (.int p2), .val (.int p3), .val (.int p4), .val (.int (0 : Int32)), .val (.int (1 : Int32)), .val (.int (0 : Int32)), .val (.int mn), .val (.int mx), .val (.double (9218868437227405312 : UInt64)), .second, .val (.double (18442240474082181120 : UInt64)), .second, .val (.ref b3), .val (.ref b4), .unset, .unset, .unset] [(.int (2 : Int32)), (.int (0 : Int32)), (.int (0 : Int32)), (.ref b4)])) _
    refine XS.icmpYes X7.here hx rfl (pc0 := 88) (pc' := 96) rfl (hb hby at_88) rfl (feq (by decide : ¬ ((0 : Int32) = (2 : Int32)))).2 (by decide) (by decide) ?_
    show Steps p.tables e below (T7.setTop (mkF m 96 #[.val (.int p0), .val (.int p1), .val (.int p2), .val (.int p3), .val (.int p4), .val (.int (0 : Int32)), .val (.int (1 : Int32)), .val (.int (0 : Int32)), .val (.int mn), .val (.int mx), .val (.double (9218868437227405312 : UInt64)), .second, .val (.double (18442240474082181120 : UInt64)), .second, .val (.ref b3), .val (.ref b4), .unset, .unset, .unset] [(.int (0 : Int32)), (.ref b4)])) _
    refine XS.iload X7.here hx rfl (hb hby at_96) rfl ?_
    show Steps p.tables e below (T7.setTop (mkF m 98 #[.val (.int p0), .val (.int p1), .val (.int p2), .val (.int p3), .val (.int p4), .val (.int (0 : Int32)), .val (.int (1 : Int32)), .val (.int (0 : Int32)), .val (.int mn), .val (.int mx), .val (.double (9218868437227405312 : UInt64)), .second, .val (.double (18442240474082181120 : UInt64)), .second, .val (.ref b3), .val (.ref b4), .unset, .unset, .unset] [(.int mx), (.int (0 : Int32)), (.ref b4)])) _
    refine XS.i2dS X7.here hx rfl (hb hby at_98) rfl (v := (FP.i2d mx)) rfl ?_
    show Steps p.tables e below (T7.setTop (mkF m 99 #[.val (.int p0), .val (.int p1), .val (.int p2), .val (.int p3), .val (.int p4), .val (.int (0 : Int32)), .val (.int (1 : Int32)), .val (.int (0 : Int32)), .val (.int mn), .val (.int mx), .val (.double (9218868437227405312 : UInt64)), .second, .val (.double (18442240474082181120 : UInt64)), .second, .val (.ref b3), .val (.ref b4), .unset, .unset, .unset] [(.double (FP.i2d mx)), (.int (0 : Int32)), (.ref b4)])) _
    refine st11 _ ?_
    show Steps p.tables e below (T11.setTop (mkF m 100 #[.val (.int p0), .val (.int p1), .val (.int p2), .val (.int p3), .val (.int p4), .val (.int (0 : Int32)), .val (.int (1 : Int32)), .val (.int (0 : Int32)), .val (.int mn), .val (.int mx), .val (.double (9218868437227405312 : UInt64)), .second, .val (.double (18442240474082181120 : UInt64)), .second, .val (.ref b3), .val (.ref b4), .unset, .unset, .unset] [])) _
    refine XS.aload X11.here hx rfl (hb hby at_100) rfl rfl ?_
    show Steps p.tables e below (T11.setTop (mkF m 102 #[.val (.int p0), .val (.int p1), .val (.int p2), .val (.int p3), .val (.int p4), .val (.int (0 : Int32)), .val (.int (1 : Int32)), .val (.int (0 : Int32)), .val (.int mn), .val (.int mx), .val (.double (9218868437227405312 : UInt64)), .second, .val (.double (18442240474082181120 : UInt64)), .second, .val (.ref b3), .val (.ref b4), .unset, .unset, .unset] [(.ref b3)])) _
    refine XS.iload X11.here hx rfl (hb hby at_102) rfl ?_
    show Steps p.tables e below (T11.setTop (mkF m 104 #[.val (.int p0), .val (.int p1), .val (.int p2), .val (.int p3), .val (.int p4), .val (.int (0 : Int32)), .val (.int (1 : Int32)), .val (.int (0 : Int32)), .val (.int mn), .val (.int mx), .val (.double (9218868437227405312 : UInt64)), .second, .val (.double (18442240474082181120 : UInt64)), .second, .val (.ref b3), .val (.ref b4), .unset, .unset, .unset] [(.int (1 : Int32)), (.ref b3)])) _
    refine XS.iload X11.here hx rfl (hb hby at_104) rfl ?_
    show Steps p.tables e below (T11.setTop (mkF m 106 #[.val (.int p0), .val (.int p1), .val (.int p2), .val (.int p3), .val (.int p4), .val (.int (0 : Int32)), .val (.int (1 : Int32)), .val (.int (0 : Int32)), .val (.int mn), .val (.int mx), .val (.double (9218868437227405312 : UInt64)), .second, .val (.double (18442240474082181120 : UInt64)), .second, .val (.ref b3), .val (.ref b4), .unset, .unset, .unset] [(.int p4), (.int (1 : Int32)), (.ref b3)])) _
    refine XS.i2dS X11.here hx rfl (hb hby at_106) rfl (v := (FP.i2d p4)) rfl ?_
    show Steps p.tables e below (T11.setTop (mkF m 107 #[.val (.int p0), .val (.int p1), .val (.int p2), .val (.int p3), .val (.int p4), .val (.int (0 : Int32)), .val (.int (1 : Int32)), .val (.int (0 : Int32)), .val (.int mn), .val (.int mx), .val (.double (9218868437227405312 : UInt64)), .second, .val (.double (18442240474082181120 : UInt64)), .second, .val (.ref b3), .val (.ref b4), .unset, .unset, .unset] [(.double (FP.i2d p4)), (.int (1 : Int32)), (.ref b3)])) _
    refine st15 _ ?_
    show Steps p.tables e below (T15.setTop (mkF m 108 #[.val (.int p0), .val (.int p1), .val (.int p2), .val (.int p3), .val (.int p4), .val (.int (0 : Int32)), .val (.int (1 : Int32)), .val (.int (0 : Int32)), .val (.int mn), .val (.int mx), .val (.double (9218868437227405312 : UInt64)), .second, .val (.double (18442240474082181120 : UInt64)), .second, .val (.ref b3), .val (.ref b4), .unset, .unset, .unset] [])) _
    refine XS.aload X15.here hx rfl (hb hby at_108) rfl rfl ?_
    show Steps p.tables e below (T15.setTop (mkF m 110 #[.val (.int p0), .val (.int p1), .val (.int p2), .val (.int p3), .val (.int p4), .val (.int (0 : Int32)), .val (.int (1 : Int32)), .val (.int (0 : Int32)), .val (.int mn), .val (.int mx), .val (.double (9218868437227405312 : UInt64)), .second, .val (.double (18442240474082181120 : UInt64)), .second, .val (.ref b3), .val (.ref b4), .unset, .unset, .unset] [(.ref b4)])) _
    refine XS.iload X15.here hx rfl (hb hby at_110) rfl ?_
    show Steps p.tables e below (T15.setTop (mkF m 112 #[.val (.int p0), .val (.int p1), .val (.int p2), .val (.int p3), .val (.int p4), .val (.int (0 : Int32)), .val (.int (1 : Int32)), .val (.int (0 : Int32)), .val (.int mn), .val (.int mx), .val (.double (9218868437227405312 : UInt64)), .second, .val (.double (18442240474082181120 : UInt64)), .second, .val (.ref b3), .val (.ref b4), .unset, .unset, .unset] [(.int (1 : Int32)), (.ref b4)])) _
    refine XS.iloadN X15.here hx rfl (hb hby at_112) rfl ?_
    show Steps p.tables e below (T15.setTop (mkF m 113 #[.val (.int p0), .val (.int p1), .val (.int p2), .val (.int p3), .val (.int p4), .val (.int (0 : Int32)), .val (.int (1 : Int32)), .val (.int (0 : Int32)), .val (.int mn), .val (.int mx), .val (.double (9218868437227405312 : UInt64)), .second, .val (.double (18442240474082181120 : UInt64)), .second, .val (.ref b3), .val (.ref b4), .unset, .unset, .unset] [(.int p2), (.int (1 : Int32)), (.ref b4)])) _
    refine XS.iconst X15.here hx rfl (hb hby at_113) ?_
    show Steps p.tables e below (T15.setTop (mkF m 114 #[.val (.int p0), .val (.int p1), .val (.int p2), .val (.int p3), .val (.int p4), .val (.int (0 : Int32)), .val (.int (1 : Int32)), .val (.int (0 : Int32)), .val (.int mn), .val (.int mx), .val (.double (9218868437227405312 : UInt64)), .second, .val (.double (18442240474082181120 : UInt64)), .second, .val (.ref b3), .val (.ref b4), .unset, .unset, .unset] [(.int (2 : Int32)), (.int p2), (.int (1 : Int32)), (.ref b4)])) _
    refine XS.ishr X15.here hx rfl (hb hby at_114) rfl ?_
    show Steps p.tables e below (T15.setTop (mkF m 115 #[.val (.int p0), .val (.int p1), .val (.int p2), .val (.int p3), .val (.int p4), .val (.int (0 : Int32)), .val (.int (1 : Int32)), .val (.int (0 : Int32)), .val (.int mn), .val (.int mx), .val (.double (9218868437227405312 : UInt64)), .second, .val (.double (18442240474082181120 : UInt64)), .second, .val (.ref b3), .val (.ref b4), .unset, .unset, .unset] [(.int (p2 >>> ((2 : Int32) &&& 31))), (.int (1 : Int32)), (.ref b4)])) _
    refine XS.iconst X15.here hx rfl (hb hby at_115) ?_
    show Steps p.tables e below (T15.setTop (mkF m 116 #[.val (.int p0), .val (.int p1), .val (.int p2), .val (.int p3), .val (.int p4), .val (.int (0 : Int32)), .val (.int (1 : Int32)), .val (.int (0 : Int32)), .val (.int mn), .val (.int mx), .val (.double (9218868437227405312 : UInt64)), .second, .val (.double (18442240474082181120 : UInt64)), .second, .val (.ref b3), .val (.ref b4), .unset, .unset, .unset] [(.int (1 : Int32)), (.int (p2 >>> ((2 : Int32) &&& 31))), (.int (1 : Int32)), (.ref b4)])) _
    refine XS.iand X15.here hx rfl (hb hby at_116) rfl ?_
    show Steps p.tables e below (T15.setTop (mkF m 117 #[.val (.int p0), .val (.int p1), .val (.int p2), .val (.int p3), .val (.int p4), .val (.int (0 : Int32)), .val (.int (1 : Int32)), .val (.int (0 : Int32)), .val (.int mn), .val (.int mx), .val (.double (9218868437227405312 : UInt64)), .second, .val (.double (18442240474082181120 : UInt64)), .second, .val (.ref b3), .val (.ref b4), .unset, .unset, .unset] [(.int ((p2 >>> ((2 : Int32) &&& 31)) &&& (1 : Int32))), (.int (1 : Int32)), (.ref b4)])) _
    refine jn18 _ ?_
    show Steps p.tables e below (T15.setTop (mkF m 128 #[.val (.int p0), .val (.int p1), .val (.int p2), .val (.int p3), .val (.int p4), .val (.int (0 : Int32)), .val (.int (1 : Int32)), .val (.int (0 : Int32)), .val (.int mn), .val (.int mx), .val (.double (9218868437227405312 : UInt64)), .second, .val (.double (18442240474082181120 : UInt64)), .second, .val (.ref b3), .val (.ref b4), .unset, .unset, .unset] [(.double ub), (.int (1 : Int32)), (.ref b4)])) _
    refine st20 _ ?_
    show Steps p.tables e below (T20.setTop (mkF m 129 #[.val (.int p0), .val (.int p1), .val (.int p2), .val (.int p3), .val (.int p4), .val (.int (0 : Int32)), .val (.int (1 : Int32)), .val (.int (0 : Int32)), .val (.int mn), .val (.int mx), .val (.double (9218868437227405312 : UInt64)), .second, .val (.double (18442240474082181120 : UInt64)), .second, .val (.ref b3), .val (.ref b4), .unset, .unset, .unset] [])) _
    refine st23 _ ?_
    show Steps p.tables e below (T23.setTop (mkF m 132 #[.val (.int p0), .val (.int p1), .val (.int p2), .val (.int p3), .val (.int p4), .val (.int (0 : Int32)), .val (.int (1 : Int32)), .val (.int (0 : Int32)), .val (.int mn), .val (.int mx), .val (.double (9218868437227405312 : UInt64)), .second, .val (.double (18442240474082181120 : UInt64)), .second, .val (.ref b3), .val (.ref b4), .unset, .unset, .unset] [(.ref b23)])) _
    refine XS.dup X23.here hx rfl (hb hby at_132) rfl rfl ?_
    show Steps p.tables e below (T23.setTop (mkF m 133 #[.val (.int p0), .val (.int p1), .val (.int p2), .val (.int p3), .val (.int p4), .val (.int (0 : Int32)), .val (.int (1 : Int32)), .val (.int (0 : Int32)), .val (.int mn), .val (.int mx), .val (.double (9218868437227405312 : UInt64)), .second, .val (.double (18442240474082181120 : UInt64)), .second, .val (.ref b3), .val (.ref b4), .unset, .unset, .unset] [(.ref b23), (.ref b23)])) _
    refine XS.aload X23.here hx rfl (hb hby at_133) rfl rfl ?_
    show Steps p.tables e below (T23.setTop (mkF m 135 #[.val (.int p0), .val (.int p1), .val (.int p2), .val (.int p3), .val (.int p4), .val (.int (0 : Int32)), .val (.int (1 : Int32)), .val (.int (0 : Int32)), .val (.int mn), .val (.int mx), .val (.double (9218868437227405312 : UInt64)), .second, .val (.double (18442240474082181120 : UInt64)), .second, .val (.ref b3), .val (.ref b4), .unset, .unset, .unset] [(.ref b3), (.ref b23), (.ref b23)])) _
    refine XS.aload X23.here hx rfl (hb hby at_135) rfl rfl ?_
    show Steps p.tables e below (T23.setTop (mkF m 137 #[.val (.int p0), .val (.int p1), .val (.int p2), .val (.int p3), .val (.int p4), .val (.int (0 : Int32)), .val (.int (1 : Int32)), .val (.int (0 : Int32)), .val (.int mn), .val (.int mx), .val (.double (9218868437227405312 : UInt64)), .second, .val (.double (18442240474082181120 : UInt64)), .second, .val (.ref b3), .val (.ref b4), .unset, .unset, .unset] [(.ref b4), (.ref b3), (.ref b23), (.ref b23)])) _
    refine XS.iconst X23.here hx rfl (hb hby at_137) ?_
    show Steps p.tables e below (T23.setTop (mkF m 138 #[.val (.int p0), .val (.int p1), .val (.int p2), .val (.int p3), .val (.int p4), .val (.int (0 : Int32)), .val (.int (1 : Int32)), .val (.int (0 : Int32)), .val (.int mn), .val (.int mx), .val (.double (9218868437227405312 : UInt64)), .second, .val (.double (18442240474082181120 : UInt64)), .second, .val (.ref b3), .val (.ref b4), .unset, .unset, .unset] [(.int (2 : Int32)), (.ref b4), (.ref b3), (.ref b23), (.ref b23)])) _
    refine st26 _ ?_
    show Steps p.tables e below (T26.setTop (mkF m 140 #[.val (.int p0), .val (.int p1), .val (.int p2), .val (.int p3), .val (.int p4), .val (.int (0 : Int32)), .val (.int (1 : Int32)), .val (.int (0 : Int32)), .val (.int mn), .val (.int mx), .val (.double (9218868437227405312 : UInt64)), .second, .val (.double (18442240474082181120 : UInt64)), .second, .val (.ref b3), .val (.ref b4), .unset, .unset, .unset] [(.ref b26), (.ref b4), (.ref b3), (.ref b23), (.ref b23)])) _
    refine XS.dup X26.here hx rfl (hb hby at_140) rfl rfl ?_
    show Steps p.tables e below (T26.setTop (mkF m 141 #[.val (.int p0), .val (.int p1), .val (.int p2), .val (.int p3), .val (.int p4), .val (.int (0 : Int32)), .val (.int (1 : Int32)), .val (.int (0 : Int32)), .val (.int mn), .val (.int mx), .val (.double (9218868437227405312 : UInt64)), .second, .val (.double (18442240474082181120 : UInt64)), .second, .val (.ref b3), .val (.ref b4), .unset, .unset, .unset] [(.ref b26), (.ref b26), (.ref b4), (.ref b3), (.ref b23), (.ref b23)])) _
    refine XS.iconst X26.here hx rfl (hb hby at_141) ?_
    show Steps p.tables e below (T26.setTop (mkF m 142 #[.val (.int p0), .val (.int p1), .val (.int p2), .val (.int p3), .val (.int p4), .val (.int (0 : Int32)), .val (.int (1 : Int32)), .val (.int (0 : Int32)), .val (.int mn), .val (.int mx), .val (.double (9218868437227405312 : UInt64)), .second, .val (.double (18442240474082181120 : UInt64)), .second, .val (.ref b3), .val (.ref b4), .unset, .unset, .unset] [(.int (0 : Int32)), (.ref b26), (.ref b26), (.ref b4), (.ref b3), (.ref b23), (.ref b23)])) _
    refine XS.iconst X26.here hx rfl (hb hby at_142) ?_
    show Steps p.tables e below (T26.setTop (mkF m 143 #[.val (.int p0), .val (.int p1), .val (.int p2), .val (.int p3), .val (.int p4), .val (.int (0 : Int32)), .val (.int (1 : Int32)), .val (.int (0 : Int32)), .val (.int mn), .val (.int mx), .val (.double (9218868437227405312 : UInt64)), .second, .val (.double (18442240474082181120 : UInt64)), .second, .val (.ref b3), .val (.ref b4), .unset, .unset, .unset] [(.int (-1 : Int32)), (.int (0 : Int32)), (.ref b26), (.ref b26), (.ref b4), (.ref b3), (.ref b23), (.ref b23)])) _
    refine st34 _ ?_
    show Steps p.tables e below (T34.setTop (mkF m 144 #[.val (.int p0), .val (.int p1), .val (.int p2), .val (.int p3), .val (.int p4), .val (.int (0 : Int32)), .val (.int (1 : Int32)), .val (.int (0 : Int32)), .val (.int mn), .val (.int mx), .val (.double (9218868437227405312 : UInt64)), .second, .val (.double (18442240474082181120 : UInt64)), .second, .val (.ref b3), .val (.ref b4), .unset, .unset, .unset] [(.ref b26), (.ref b4), (.ref b3), (.ref b23), (.ref b23)])) _
    refine XS.dup X34.here hx rfl (hb hby at_144) rfl rfl ?_
    show Steps p.tables e below (T34.setTop (mkF m 145 #[.val (.int p0), .val (.int p1), .val (.int p2), .val (.int p3), .val (.int p4), .val (.int (0 : Int32)), .val (.int (1 : Int32)), .val (.int (0 : Int32)), .val (.int mn), .val (.int mx), .val (.double (9218868437227405312 : UInt64)), .second, .val (.double (18442240474082181120 : UInt64)), .second, .val (.ref b3), .val (.ref b4), .unset, .unset, .unset] [(.ref b26), (.ref b26), (.ref b4), (.ref b3), (.ref b23), (.ref b23)])) _
    refine XS.iconst X34.here hx rfl (hb hby at_145) ?_
    show Steps p.tables e below (T34.setTop (mkF m 146 #[.val (.int p0), .val (.int p1), .val (.int p2), .val (.int p3), .val (.int p4), .val (.int (0 : Int32)), .val (.int (1 : Int32)), .val (.int (0 : Int32)), .val (.int mn), .val (.int mx), .val (.double (9218868437227405312 : UInt64)), .second, .val (.double (18442240474082181120 : UInt64)), .second, .val (.ref b3), .val (.ref b4), .unset, .unset, .unset] [(.int (1 : Int32)), (.ref b26), (.ref b26), (.ref b4), (.ref b3), (.ref b23), (.ref b23)])) _
    refine XS.iconst X34.here hx rfl (hb hby at_146) ?_
    show Steps p.tables e below (T34.setTop (mkF m 147 #[.val (.int p0), .val (.int p1), .val (.int p2), .val (.int p3), .val (.int p4), .val (.int (0 : Int32)), .val (.int (1 : Int32)), .val (.int (0 : Int32)), .val (.int mn), .val (.int mx), .val (.double (9218868437227405312 : UInt64)), .second, .val (.double (18442240474082181120 : UInt64)), .second, .val (.ref b3), .val (.ref b4), .unset, .unset, .unset] [(.int (-1 : Int32)), (.int (1 : Int32)), (.ref b26), (.ref b26), (.ref b4), (.ref b3), (.ref b23), (.ref b23)])) _
    refine st44 _ ?_
    show Steps p.tables e below (T44.setTop (mkF m 148 #[.val (.int p0), .val (.int p1), .val (.int p2), .val (.int p3), .val (.int p4), .val (.int (0 : Int32)), .val (.int (1 : Int32)), .val (.int (0 : Int32)), .val (.int mn), .val (.int mx), .val (.double (9218868437227405312 : UInt64)), .second, .val (.double (18442240474082181120 : UInt64)), .second, .val (.ref b3), .val (.ref b4), .unset, .unset, .unset] [(.ref b26), (.ref b4), (.ref b3), (.ref b23), (.ref b23)])) _
    refine st53.trans ?_
    show Steps p.tables e below (T53.setTop (mkF m 151 #[.val (.int p0), .val (.int p1), .val (.int p2), .val (.int p3), .val (.int p4), .val (.int (0 : Int32)), .val (.int (1 : Int32)), .val (.int (0 : Int32)), .val (.int mn), .val (.int mx), .val (.double (9218868437227405312 : UInt64)), .second, .val (.double (18442240474082181120 : UInt64)), .second, .val (.ref b3), .val (.ref b4), .unset, .unset, .unset] [(.ref b23)])) _
    refine XS.astore X53.here hx rfl (hb hby at_151) rfl rfl (l' := #[.val (.int p0), .val (.int p1), .val (.int p2), .val (.int p3), .val (.int p4), .val (.int (0 : Int32)), .val (.int (1 : Int32)), .val (.int (0 : Int32)), .val (.int mn), .val (.int mx), .val (.double (9218868437227405312 : UInt64)), .second, .val (.double (18442240474082181120 : UInt64)), .second, .val (.ref b3), .val (.ref b4), .val (.ref b23), .unset, .unset]) rfl ?_
    show Steps p.tables e below (T53.setTop (mkF m 153 #[.val (.int p0), .val (.int p1), .val (.int p2), .val (.int p3), .val (.int p4), .val (.int (0 : Int32)), .val (.int (1 : Int32)), .val (.int (0 : Int32)), .val (.int mn), .val (.int mx), .val (.double (9218868437227405312 : UInt64)), .second, .val (.double (18442240474082181120 : UInt64)), .second, .val (.ref b3), .val (.ref b4), .val (.ref b23), .unset, .unset] [])) _
    refine XS.aload X53.here hx rfl (hb hby at_153) rfl rfl ?_
    show Steps p.tables e below (T53.setTop (mkF m 155 #[.val (.int p0), .val (.int p1), .val (.int p2), .val (.int p3), .val (.int p4), .val (.int (0 : Int32)), .val (.int (1 : Int32)), .val (.int (0 : Int32)), .val (.int mn), .val (.int mx), .val (.double (9218868437227405312 : UInt64)), .second, .val (.double (18442240474082181120 : UInt64)), .second, .val (.ref b3), .val (.ref b4), .val (.ref b23), .unset, .unset] [(.ref b23)])) _
    refine XS.iload X53.here hx rfl (hb hby at_155) rfl ?_
    show Steps p.tables e below (T53.setTop (mkF m 157 #[.val (.int p0), .val (.int p1), .val (.int p2), .val (.int p3), .val (.int p4), .val (.int (0 : Int32)), .val (.int (1 : Int32)), .val (.int (0 : Int32)), .val (.int mn), .val (.int mx), .val (.double (9218868437227405312 : UInt64)), .second, .val (.double (18442240474082181120 : UInt64)), .second, .val (.ref b3), .val (.ref b4), .val (.ref b23), .unset, .unset] [(.int (0 : Int32)), (.ref b23)])) _
    refine st62.trans ?_
    show Steps p.tables e below (T62.setTop (mkF m 160 #[.val (.int p0), .val (.int p1), .val (.int p2), .val (.int p3), .val (.int p4), .val (.int (0 : Int32)), .val (.int (1 : Int32)), .val (.int (0 : Int32)), .val (.int mn), .val (.int mx), .val (.double (9218868437227405312 : UInt64)), .second, .val (.double (18442240474082181120 : UInt64)), .second, .val (.ref b3), .val (.ref b4), .val (.ref b23), .unset, .unset] [(.double (FP.ddiv (FP.dadd (FP.i2d mn) (FP.i2d mx)) (4611686018427387904 : UInt64)))])) _
    refine XS.dstore X62.here hx rfl (hb hby at_160) rfl (l' := #[.val (.int p0), .val (.int p1), .val (.int p2), .val (.int p3), .val (.int p4), .val (.int (0 : Int32)), .val (.int (1 : Int32)), .val (.int (0 : Int32)), .val (.int mn), .val (.int mx), .val (.double (9218868437227405312 : UInt64)), .second, .val (.double (18442240474082181120 : UInt64)), .second, .val (.ref b3), .val (.ref b4), .val (.ref b23), .val (.double (FP.ddiv (FP.dadd (FP.i2d mn) (FP.i2d mx)) (4611686018427387904 : UInt64))), .second]) rfl ?_
    show Steps p.tables e below (T62.setTop (mkF m 162 #[.val (.int p0), .val (.int p1), .val (.int p2), .val (.int p3), .val (.int p4), .val (.int (0 : Int32)), .val (.int (1 : Int32)), .val (.int (0 : Int32)), .val (.int mn), .val (.int mx), .val (.double (9218868437227405312 : UInt64)), .second, .val (.double (18442240474082181120 : UInt64)), .second, .val (.ref b3), .val (.ref b4), .val (.ref b23), .val (.double (FP.ddiv (FP.dadd (FP.i2d mn) (FP.i2d mx)) (4611686018427387904 : UInt64))), .second] [])) _
    refine XS.iload X62.here hx rfl (hb hby at_162) rfl ?_
    show Steps p.tables e below (T62.setTop (mkF m 164 #[.val (.int p0), .val (.int p1), .val (.int p2), .val (.int p3), .val (.int p4), .val (.int (0 : Int32)), .val (.int (1 : Int32)), .val (.int (0 : Int32)), .val (.int mn), .val (.int mx), .val (.double (9218868437227405312 : UInt64)), .second, .val (.double (18442240474082181120 : UInt64)), .second, .val (.ref b3), .val (.ref b4), .val (.ref b23), .val (.double (FP.ddiv (FP.dadd (FP.i2d mn) (FP.i2d mx)) (4611686018427387904 : UInt64))), .second] [(.int (0 : Int32))])) _
    refine XS.ifNo X62.here hx rfl (hb hby at_164) rfl ((if0 _ _).trans (teq (by decide : (0 : Int32) = (0 : Int32))).2) ?_
    show Steps p.tables e below (T62.setTop (mkF m 167 #[.val (.int p0), .val (.int p1), .val (.int p2), .val (.int p3), .val (.int p4), .val (.int (0 : Int32)), .val (.int (1 : Int32)), .val (.int (0 : Int32)), .val (.int mn), .val (.int mx), .val (.double (9218868437227405312 : UInt64)), .second, .val (.double (18442240474082181120 : UInt64)), .second, .val (.ref b3), .val (.ref b4), .val (.ref b23), .val (.double (FP.ddiv (FP.dadd (FP.i2d mn) (FP.i2d mx)) (4611686018427387904 : UInt64))), .second] [])) _
    refine XS.dload X62.here hx rfl (hb hby at_167) rfl ?_
    show Steps p.tables e below (T62.setTop (mkF m 169 #[.val (.int p0), .val (.int p1), .val (.int p2), .val (.int p3), .val (.int p4), .val (.int (0 : Int32)), .val (.int (1 : Int32)), .val (.int (0 : Int32)), .val (.int mn), .val (.int mx), .val (.double (9218868437227405312 : UInt64)), .second, .val (.double (18442240474082181120 : UInt64)), .second, .val (.ref b3), .val (.ref b4), .val (.ref b23), .val (.double (FP.ddiv (FP.dadd (FP.i2d mn) (FP.i2d mx)) (4611686018427387904 : UInt64))), .second] [(.double (FP.ddiv (FP.dadd (FP.i2d mn) (FP.i2d mx)) (4611686018427387904 : UInt64)))])) _
    refine X62.ldc2DoubleC hx hown (mvT hZ (hw _ (List.mem_of_getElem? (i := 39) rfl))) (g := (mkF m 169 #[.val (.int p0), .val (.int p1), .val (.int p2), .val (.int p3), .val (.int p4), .val (.int (0 : Int32)), .val (.int (1 : Int32)), .val (.int (0 : Int32)), .val (.int mn), .val (.int mx), .val (.double (9218868437227405312 : UInt64)), .second, .val (.double (18442240474082181120 : UInt64)), .second, .val (.ref b3), .val (.ref b4), .val (.ref b23), .val (.double (FP.ddiv (FP.dadd (FP.i2d mn) (FP.i2d mx)) (4611686018427387904 : UInt64))), .second] [(.double (FP.ddiv (FP.dadd (FP.i2d mn) (FP.i2d mx)) (4611686018427387904 : UInt64)))])) rfl (hb hby at_169) _ ?_
    show Steps p.tables e below (T62.setTop (mkF m 172 #[.val (.int p0), .val (.int p1), .val (.int p2), .val (.int p3), .val (.int p4), .val (.int (0 : Int32)), .val (.int (1 : Int32)), .val (.int (0 : Int32)), .val (.int mn), .val (.int mx), .val (.double (9218868437227405312 : UInt64)), .second, .val (.double (18442240474082181120 : UInt64)), .second, .val (.ref b3), .val (.ref b4), .val (.ref b23), .val (.double (FP.ddiv (FP.dadd (FP.i2d mn) (FP.i2d mx)) (4611686018427387904 : UInt64))), .second] [(.double (4611686018427387904 : UInt64)), (.double (FP.ddiv (FP.dadd (FP.i2d mn) (FP.i2d mx)) (4611686018427387904 : UInt64)))])) _
    refine XS.dmulS X62.here hx rfl (hb hby at_172) rfl nn172 (v := (FP.dmul (FP.ddiv (FP.dadd (FP.i2d mn) (FP.i2d mx)) (4611686018427387904 : UInt64)) (4611686018427387904 : UInt64))) rfl ?_
    show Steps p.tables e below (T62.setTop (mkF m 173 #[.val (.int p0), .val (.int p1), .val (.int p2), .val (.int p3), .val (.int p4), .val (.int (0 : Int32)), .val (.int (1 : Int32)), .val (.int (0 : Int32)), .val (.int mn), .val (.int mx), .val (.double (9218868437227405312 : UInt64)), .second, .val (.double (18442240474082181120 : UInt64)), .second, .val (.ref b3), .val (.ref b4), .val (.ref b23), .val (.double (FP.ddiv (FP.dadd (FP.i2d mn) (FP.i2d mx)) (4611686018427387904 : UInt64))), .second] [(.double (FP.dmul (FP.ddiv (FP.dadd (FP.i2d mn) (FP.i2d mx)) (4611686018427387904 : UInt64)) (4611686018427387904 : UInt64)))])) _
    refine XS.iload X62.here hx rfl (hb hby at_173) rfl ?_
    show Steps p.tables e below (T62.setTop (mkF m 175 #[.val (.int p0), .val (.int p1), .val (.int p2), .val (.int p3), .val (.int p4), .val (.int (0 : Int32)), .val (.int (1 : Int32)), .val (.int (0 : Int32)), .val (.int mn), .val (.int mx), .val (.double (9218868437227405312 : UInt64)), .second, .val (.double (18442240474082181120 : UInt64)), .second, .val (.ref b3), .val (.ref b4), .val (.ref b23), .val (.double (FP.ddiv (FP.dadd (FP.i2d mn) (FP.i2d mx)) (4611686018427387904 : UInt64))), .second] [(.int mn), (.double (FP.dmul (FP.ddiv (FP.dadd (FP.i2d mn) (FP.i2d mx)) (4611686018427387904 : UInt64)) (4611686018427387904 : UInt64)))])) _
    refine XS.i2l X62.here hx rfl (hb hby at_175) rfl ?_
    show Steps p.tables e below (T62.setTop (mkF m 176 #[.val (.int p0), .val (.int p1), .val (.int p2), .val (.int p3), .val (.int p4), .val (.int (0 : Int32)), .val (.int (1 : Int32)), .val (.int (0 : Int32)), .val (.int mn), .val (.int mx), .val (.double (9218868437227405312 : UInt64)), .second, .val (.double (18442240474082181120 : UInt64)), .second, .val (.ref b3), .val (.ref b4), .val (.ref b23), .val (.double (FP.ddiv (FP.dadd (FP.i2d mn) (FP.i2d mx)) (4611686018427387904 : UInt64))), .second] [(.long (mn.toInt64)), (.double (FP.dmul (FP.ddiv (FP.dadd (FP.i2d mn) (FP.i2d mx)) (4611686018427387904 : UInt64)) (4611686018427387904 : UInt64)))])) _
    refine XS.iload X62.here hx rfl (hb hby at_176) rfl ?_
    show Steps p.tables e below (T62.setTop (mkF m 178 #[.val (.int p0), .val (.int p1), .val (.int p2), .val (.int p3), .val (.int p4), .val (.int (0 : Int32)), .val (.int (1 : Int32)), .val (.int (0 : Int32)), .val (.int mn), .val (.int mx), .val (.double (9218868437227405312 : UInt64)), .second, .val (.double (18442240474082181120 : UInt64)), .second, .val (.ref b3), .val (.ref b4), .val (.ref b23), .val (.double (FP.ddiv (FP.dadd (FP.i2d mn) (FP.i2d mx)) (4611686018427387904 : UInt64))), .second] [(.int mx), (.long (mn.toInt64)), (.double (FP.dmul (FP.ddiv (FP.dadd (FP.i2d mn) (FP.i2d mx)) (4611686018427387904 : UInt64)) (4611686018427387904 : UInt64)))])) _
    refine XS.i2l X62.here hx rfl (hb hby at_178) rfl ?_
    show Steps p.tables e below (T62.setTop (mkF m 179 #[.val (.int p0), .val (.int p1), .val (.int p2), .val (.int p3), .val (.int p4), .val (.int (0 : Int32)), .val (.int (1 : Int32)), .val (.int (0 : Int32)), .val (.int mn), .val (.int mx), .val (.double (9218868437227405312 : UInt64)), .second, .val (.double (18442240474082181120 : UInt64)), .second, .val (.ref b3), .val (.ref b4), .val (.ref b23), .val (.double (FP.ddiv (FP.dadd (FP.i2d mn) (FP.i2d mx)) (4611686018427387904 : UInt64))), .second] [(.long (mx.toInt64)), (.long (mn.toInt64)), (.double (FP.dmul (FP.ddiv (FP.dadd (FP.i2d mn) (FP.i2d mx)) (4611686018427387904 : UInt64)) (4611686018427387904 : UInt64)))])) _
    refine XS.ladd X62.here hx rfl (hb hby at_179) rfl ?_
    show Steps p.tables e below (T62.setTop (mkF m 180 #[.val (.int p0), .val (.int p1), .val (.int p2), .val (.int p3), .val (.int p4), .val (.int (0 : Int32)), .val (.int (1 : Int32)), .val (.int (0 : Int32)), .val (.int mn), .val (.int mx), .val (.double (9218868437227405312 : UInt64)), .second, .val (.double (18442240474082181120 : UInt64)), .second, .val (.ref b3), .val (.ref b4), .val (.ref b23), .val (.double (FP.ddiv (FP.dadd (FP.i2d mn) (FP.i2d mx)) (4611686018427387904 : UInt64))), .second] [(.long ((mn.toInt64) + (mx.toInt64))), (.double (FP.dmul (FP.ddiv (FP.dadd (FP.i2d mn) (FP.i2d mx)) (4611686018427387904 : UInt64)) (4611686018427387904 : UInt64)))])) _
    refine XS.l2dS X62.here hx rfl (hb hby at_180) rfl (v := (FP.l2d ((mn.toInt64) + (mx.toInt64)))) rfl ?_
    show Steps p.tables e below (T62.setTop (mkF m 181 #[.val (.int p0), .val (.int p1), .val (.int p2), .val (.int p3), .val (.int p4), .val (.int (0 : Int32)), .val (.int (1 : Int32)), .val (.int (0 : Int32)), .val (.int mn), .val (.int mx), .val (.double (9218868437227405312 : UInt64)), .second, .val (.double (18442240474082181120 : UInt64)), .second, .val (.ref b3), .val (.ref b4), .val (.ref b23), .val (.double (FP.ddiv (FP.dadd (FP.i2d mn) (FP.i2d mx)) (4611686018427387904 : UInt64))), .second] [(.double (FP.l2d ((mn.toInt64) + (mx.toInt64)))), (.double (FP.dmul (FP.ddiv (FP.dadd (FP.i2d mn) (FP.i2d mx)) (4611686018427387904 : UInt64)) (4611686018427387904 : UInt64)))])) _
    refine XS.dcmpS X62.here hx rfl (hb hby at_181) rfl (v := (0 : Int32)) hd181 ?_
    show Steps p.tables e below (T62.setTop (mkF m 182 #[.val (.int p0), .val (.int p1), .val (.int p2), .val (.int p3), .val (.int p4), .val (.int (0 : Int32)), .val (.int (1 : Int32)), .val (.int (0 : Int32)), .val (.int mn), .val (.int mx), .val (.double (9218868437227405312 : UInt64)), .second, .val (.double (18442240474082181120 : UInt64)), .second, .val (.ref b3), .val (.ref b4), .val (.ref b23), .val (.double (FP.ddiv (FP.dadd (FP.i2d mn) (FP.i2d mx)) (4611686018427387904 : UInt64))), .second] [(.int (0 : Int32))])) _
    refine XS.ifNo X62.here hx rfl (hb hby at_182) rfl ((if0 _ _).trans (teq (by decide : (0 : Int32) = (0 : Int32))).2) ?_
    show Steps p.tables e below (T62.setTop (mkF m 185 #[.val (.int p0), .val (.int p1), .val (.int p2), .val (.int p3), .val (.int p4), .val (.int (0 : Int32)), .val (.int (1 : Int32)), .val (.int (0 : Int32)), .val (.int mn), .val (.int mx), .val (.double (9218868437227405312 : UInt64)), .second, .val (.double (18442240474082181120 : UInt64)), .second, .val (.ref b3), .val (.ref b4), .val (.ref b23), .val (.double (FP.ddiv (FP.dadd (FP.i2d mn) (FP.i2d mx)) (4611686018427387904 : UInt64))), .second] [])) _
    refine XS.iconst X62.here hx rfl (hb hby at_185) ?_
    show Steps p.tables e below (T62.setTop (mkF m 186 #[.val (.int p0), .val (.int p1), .val (.int p2), .val (.int p3), .val (.int p4), .val (.int (0 : Int32)), .val (.int (1 : Int32)), .val (.int (0 : Int32)), .val (.int mn), .val (.int mx), .val (.double (9218868437227405312 : UInt64)), .second, .val (.double (18442240474082181120 : UInt64)), .second, .val (.ref b3), .val (.ref b4), .val (.ref b23), .val (.double (FP.ddiv (FP.dadd (FP.i2d mn) (FP.i2d mx)) (4611686018427387904 : UInt64))), .second] [(.int (1 : Int32))])) _
    refine XS.goto X62.here hx rfl (pc0 := 186) (pc' := 190) rfl (hb hby at_186) (by decide) (by decide) ?_
    show Steps p.tables e below (T62.setTop (mkF m 190 #[.val (.int p0), .val (.int p1), .val (.int p2), .val (.int p3), .val (.int p4), .val (.int (0 : Int32)), .val (.int (1 : Int32)), .val (.int (0 : Int32)), .val (.int mn), .val (.int mx), .val (.double (9218868437227405312 : UInt64)), .second, .val (.double (18442240474082181120 : UInt64)), .second, .val (.ref b3), .val (.ref b4), .val (.ref b23), .val (.double (FP.ddiv (FP.dadd (FP.i2d mn) (FP.i2d mx)) (4611686018427387904 : UInt64))), .second] [(.int (1 : Int32))])) _
    exact retN X62 hx (t := .boolean) Bd.returns (by simp) (hb hby at_190) hr
  · show Q0 n0 _ T62.heap _
    rw [e62]
    exact ⟨rfl, N62⟩
set_option maxRecDepth 65536 in
set_option maxHeartbeats 40000000 in
theorem rm0_01 (l : Launch) (Z : State) (a0 : Array Value) (hw : ∀ d ∈ tables_1, d.before a0 Z = true) (ws : List Jvm.Cond) (p0 : Int32) (p1 : Int32) (p2 : Int32) (p3 : Int32) (p4 : Int32) (mn : Int32) (mx : Int32) (ub : UInt64) (h0 : Heap) (n0 : Nat) (Z0 : n0 ≤ h0.size) (hv2 : (p3 &&& (1 : Int32)) = (1 : Int32)) (hv13 : (p2 &&& (3 : Int32)) = (0 : Int32)) (hr_r_18 : (if p1 < p0 then p1 else p0) = mn) (hr_r_25 : (if p0 < p1 then p1 else p0) = mx) (hj_ub : (if ((p2 >>> ((2 : Int32) &&& 31)) &&& (1 : Int32)) = (0 : Int32) then (FP.i2d p4) else (9218868437227405312 : UInt64)) = ub) (hd9_157 : (cmpValue (FP.dcmp (FP.i2d mx) (9218868437227405312 : UInt64)) .l) = (-1 : Int32)) (nn32_157 : Jvm.Free.Fl.NoNaN64 (FP.dadd (FP.i2d mn) (FP.i2d mx))) (nn36_157 : Jvm.Free.Fl.NoNaN64 (FP.ddiv (FP.dadd (FP.i2d mn) (FP.i2d mx)) (4611686018427387904 : UInt64))) (nn172 : Jvm.Free.Fl.NoNaN64 (FP.dmul (FP.ddiv (FP.dadd (FP.i2d mn) (FP.i2d mx)) (4611686018427387904 : UInt64)) (4611686018427387904 : UInt64))) (hd181 : (cmpValue (FP.dcmp (FP.dmul (FP.ddiv (FP.dadd (FP.i2d mn) (FP.i2d mx)) (4611686018427387904 : UInt64)) (4611686018427387904 : UInt64)) (FP.l2d ((mn.toInt64) + (mx.toInt64)))) .l) = (0 : Int32)) :
    MetFree l x (head1 (Jvm.Cond.code x code maxLocals ret :: ws) room_1) (fun a U => a = #[(.int p0), (.int p1), (.int p2), (.int p3), (.int p4)] ∧ Z.Warmed39 U.vm ∧ U.heap = h0) (fun _ _ _ _ _ => True) (fun _ U o U' => ∃ v L, o = .returned v ∧ Q0 n0 v U'.heap L ∧ FrameEnd U o U' L room_1.cells room_1.slots) := by
  refine MetFree.of_bodySF (plainFor_of_name pn_com_example_hedge_hedge_ValueBoundsValuePinLaw) hisR ?_
  intro p e s m args below meth c s₁ Bd hml0 hP hK
  obtain ⟨rfl, hZ, hh⟩ := hP
  have hx := Bd.exec
  have hby := Bd.bytes
  have hml : c.maxLocals = 19 := hml0
  have hown : s.vm.findClass "com/example/hedge/hedge/ValueBoundsValuePinLaw" = some m.cls := findClass_of_methodNamed Bd.named
  have hnm := (name_of_methodNamed Bd.named Bd.method).1
  have X0 : Stand p l e room_1 s m #[(.int p0), (.int p1), (.int p2), (.int p3), (.int p4)] below meth c s₁ [] 0 0 := Stand.of_body Bd
  have e0 : s₁.heap = h0 := by rw [← hh, Bd.state]; rfl
  have N0 := Fr.nil n0
  have pre0 : ∀ t, Steps p.tables e below (s₁.setTop (mkF m 0 #[.val (.int p0), .val (.int p1), .val (.int p2), .val (.int p3), .val (.int p4), .unset, .unset, .unset, .unset, .unset, .unset, .unset, .unset, .unset, .unset, .unset, .unset, .unset, .unset] [])) t → Steps p.tables e below (s₁.setTop (entryFrame m #[(.int p0), (.int p1), (.int p2), (.int p3), (.int p4)] maxLocals)) t := fun t k => castTop (ef_0_IIIII m p0 p1 p2 p3 p4) k
  obtain ⟨_, _, ⟨T1, L1, k1, n1⟩, -, X1, ⟨Lc1, hQ1, l1, y1, z1⟩, st1⟩ := Jvm.LawKit.callS X0 hx (y := (⟨"java/lang/Math", "min", "(II)I"⟩ : MethodName)) hown (mvT hZ (hw _ (List.mem_of_getElem? (i := 0) rfl))) (mvT hZ (hw _ (List.mem_of_getElem? (i := 1) rfl))) (mvT hZ (hw _ (List.mem_of_getElem? (i := 2) rfl))) (mvT hZ (hw _ (List.mem_of_getElem? (i := 3) rfl))) (by decide) (backOf (W := 0) (rm1M l Z a0 hw [] p0 p1 mn h0 n0 Z0 hr_r_18) hZ (hw _ (List.mem_of_getElem? (i := 3) rfl)) (hw _ (List.mem_of_getElem? (i := 2) rfl)) (by decide) (by decide)) (g := (mkF m 18 #[.val (.int p0), .val (.int p1), .val (.int p2), .val (.int p3), .val (.int p4), .val (.int (1 : Int32)), .val (.int (0 : Int32)), .val (.int (0 : Int32)), .unset, .unset, .unset, .unset, .unset, .unset, .unset, .unset, .unset, .unset, .unset] [(.int p1), (.int p0)])) rfl (by rw [hml]; rfl) (argsL := [(.int p0), (.int p1)]) (rest := []) (lenOf pd_1 rfl) rfl (by show 2 * 0 + _ ≤ _; exact Nat.le_of_eq rfl) (hb hby at_18) (fun _ _ => ⟨rfl, e0, (by decide : 0 + 0 ≤ _), (by decide : 0 + 0 ≤ _)⟩)
  dsimp only [Pt.U, Pt.locs, Pt.cells, Pt.slots] at X1 l1 y1 z1 st1 hQ1
  subst l1 y1 z1
  obtain ⟨rfl, N1q, eh1⟩ := hQ1
  have N1 := Fr.app N0 N1q
  have e1 : T1.heap = h0 := eh1
  obtain ⟨_, _, ⟨T2, L2, k2, n2⟩, -, X2, ⟨Lc2, hQ2, l2, y2, z2⟩, st2⟩ := Jvm.LawKit.callS X1 hx (y := (⟨"java/lang/Math", "max", "(II)I"⟩ : MethodName)) hown (mvT hZ (hw _ (List.mem_of_getElem? (i := 4) rfl))) (mvT hZ (hw _ (List.mem_of_getElem? (i := 5) rfl))) (mvT hZ (hw _ (List.mem_of_getElem? (i := 2) rfl))) (mvT hZ (hw _ (List.mem_of_getElem? (i := 6) rfl))) (by decide) (backOf (W := 0) (rm2M l Z a0 hw [] p0 p1 mx h0 n0 Z0 hr_r_25) hZ (hw _ (List.mem_of_getElem? (i := 6) rfl)) (hw _ (List.mem_of_getElem? (i := 2) rfl)) (by decide) (by decide)) (g := (mkF m 25 #[.val (.int p0), .val (.int p1), .val (.int p2), .val (.int p3), .val (.int p4), .val (.int (1 : Int32)), .val (.int (0 : Int32)), .val (.int (0 : Int32)), .val (.int mn), .unset, .unset, .unset, .unset, .unset, .unset, .unset, .unset, .unset, .unset] [(.int p1), (.int p0)])) rfl (by rw [hml]; rfl) (argsL := [(.int p0), (.int p1)]) (rest := []) (lenOf pd_1 rfl) rfl (by show 2 * 0 + _ ≤ _; exact Nat.le_of_eq rfl) (hb hby at_25) (fun _ _ => ⟨rfl, e1, (by decide : 0 + 0 ≤ _), (by decide : 0 + 0 ≤ _)⟩)
  dsimp only [Pt.U, Pt.locs, Pt.cells, Pt.slots] at X2 l2 y2 z2 st2 hQ2
  subst l2 y2 z2
  obtain ⟨rfl, N2q, eh2⟩ := hQ2
  have N2 := Fr.app N1 N2q
  have e2 : T2.heap = h0 := eh2
  obtain ⟨T3, h3, k3, X3, e3, E3, A3, st3⟩ := newP X2 hx hZ (hw _ (List.mem_of_getElem? (i := 9) rfl)) e2 (g := (mkF m 41 #[.val (.int p0), .val (.int p1), .val (.int p2), .val (.int p3), .val (.int p4), .val (.int (1 : Int32)), .val (.int (0 : Int32)), .val (.int (0 : Int32)), .val (.int mn), .val (.int mx), .val (.double (9218868437227405312 : UInt64)), .second, .val (.double (18442240474082181120 : UInt64)), .second, .unset, .unset, .unset, .unset, .unset] [(.int (2 : Int32))])) rfl (hb hby at_41) rfl (by decide) (cap := 2) (by decide) (by decide) (by decide) (by decide)
  obtain ⟨b3, g3⟩ : ∃ z, z = h0.size := ⟨_, rfl⟩
  rw [← g3] at A3 st3
  have g_b3 : n0 ≤ b3 := Nat.le_trans Z0 (Nat.le_of_eq g3.symm)
  have sz_b3 : h0.size ≤ b3 := Nat.le_trans (Keep.refl h0 []).1 (Nat.le_of_eq g3.symm)
  have K3 : Keep h0 h3 [] := (Keep.refl h0 []).ext E3
  have Zs3 := Nat.le_trans Z0 E3.1
  have V3 : Arv Z h3 b3 k3 .double (2 : Int32) [(.double (0 : UInt64)), (.double (0 : UInt64))] (.double (0 : UInt64)) := (Arv.new A3 (by decide)).pad (pad_rep [] (.double (0 : UInt64)) 2)
  obtain ⟨T4, h4, k4, X4, e4, E4, A4, st4⟩ := newP X3 hx hZ (hw _ (List.mem_of_getElem? (i := 9) rfl)) e3 (g := (mkF m 46 #[.val (.int p0), .val (.int p1), .val (.int p2), .val (.int p3), .val (.int p4), .val (.int (1 : Int32)), .val (.int (0 : Int32)), .val (.int (0 : Int32)), .val (.int mn), .val (.int mx), .val (.double (9218868437227405312 : UInt64)), .second, .val (.double (18442240474082181120 : UInt64)), .second, .val (.ref b3), .unset, .unset, .unset, .unset] [(.int (2 : Int32))])) rfl (hb hby at_46) rfl (by decide) (cap := 2) (by decide) (by decide) (by decide) (by decide)
  obtain ⟨b4, g4⟩ : ∃ z, z = h3.size := ⟨_, rfl⟩
  rw [← g4] at A4 st4
  have ne_b3_b4 : b3 ≠ b4 := Nat.ne_of_lt (Nat.lt_of_lt_of_le V3.lt (Nat.le_of_eq g4.symm))
  have g_b4 : n0 ≤ b4 := Nat.le_trans Zs3 (Nat.le_of_eq g4.symm)
  have sz_b4 : h0.size ≤ b4 := Nat.le_trans K3.1 (Nat.le_of_eq g4.symm)
  have f5 := V3.ext E4
  have K4 : Keep h0 h4 [] := K3.ext E4
  have Zs4 := Nat.le_trans Zs3 E4.1
  have V4 : Arv Z h4 b4 k4 .double (2 : Int32) [(.double (0 : UInt64)), (.double (0 : UInt64))] (.double (0 : UInt64)) := (Arv.new A4 (by decide)).pad (pad_rep [] (.double (0 : UInt64)) 2)
  obtain ⟨cq6, Arq6, qq6, Sq6, Nq6, Hq6, Gq6⟩ := id f5
  obtain ⟨T7, h7, X7, e7, W7, st7⟩ := stD X4 hx hZ e4 Arq6 (j := (1 : Int32)) (inb_of Sq6 ⟨by decide, by decide⟩) (g := (mkF m 74 #[.val (.int p0), .val (.int p1), .val (.int p2), .val (.int p3), .val (.int p4), .val (.int (1 : Int32)), .val (.int (0 : Int32)), .val (.int (0 : Int32)), .val (.int mn), .val (.int mx), .val (.double (9218868437227405312 : UInt64)), .second, .val (.double (18442240474082181120 : UInt64)), .second, .val (.ref b3), .val (.ref b4), .unset, .unset, .unset] [(.double (FP.i2d mn)), (.int (1 : Int32)), (.ref b3)])) rfl rfl (hb hby at_74)
  have f8 := V4.other W7 (Ne.symm ne_b3_b4)
  have K7 : Keep h0 h7 [] := K4.wr W7 (Or.inr sz_b3)
  have Zs7 := Nat.le_trans Zs4 (Keep.of_wr W7).1
  have N7 := Fr.snoc X7 N2 g_b3
  have f9 : Arv Z h7 b3 k3 .double (2 : Int32) [(.double (0 : UInt64)), (.double (FP.i2d mn))] (.double (0 : UInt64)) := Arv.set Arq6 qq6 Sq6 Nq6 Hq6 Gq6 rfl W7 1 rfl (Nat.le_of_ble_eq_true rfl)
  obtain ⟨cq10, Arq10, qq10, Sq10, Nq10, Hq10, Gq10⟩ := id f8
  obtain ⟨T11, h11, X11, e11, W11, st11⟩ := stD X7 hx hZ e7 Arq10 (j := (1 : Int32)) (inb_of Sq10 ⟨by decide, by decide⟩) (g := (mkF m 99 #[.val (.int p0), .val (.int p1), .val (.int p2), .val (.int p3), .val (.int p4), .val (.int (1 : Int32)), .val (.int (0 : Int32)), .val (.int (0 : Int32)), .val (.int mn), .val (.int mx), .val (.double (9218868437227405312 : UInt64)), .second, .val (.double (18442240474082181120 : UInt64)), .second, .val (.ref b3), .val (.ref b4), .unset, .unset, .unset] [(.double (FP.i2d mx)), (.int (1 : Int32)), (.ref b4)])) rfl rfl (hb hby at_99)
  have f12 := f9.other W11 ne_b3_b4
  have K11 : Keep h0 h11 [] := K7.wr W11 (Or.inr sz_b4)
  have Zs11 := Nat.le_trans Zs7 (Keep.of_wr W11).1
  have N11 := Fr.snoc X11 N7 g_b4
  have f13 : Arv Z h11 b4 k4 .double (2 : Int32) [(.double (0 : UInt64)), (.double (FP.i2d mx))] (.double (0 : UInt64)) := Arv.set Arq10 qq10 Sq10 Nq10 Hq10 Gq10 rfl W11 1 rfl (Nat.le_of_ble_eq_true rfl)
  obtain ⟨cq14, Arq14, qq14, Sq14, Nq14, Hq14, Gq14⟩ := id f12
  obtain ⟨T15, h15, X15, e15, W15, st15⟩ := stD X11 hx hZ e11 Arq14 (j := (0 : Int32)) (inb_of Sq14 ⟨by decide, by decide⟩) (g := (mkF m 107 #[.val (.int p0), .val (.int p1), .val (.int p2), .val (.int p3), .val (.int p4), .val (.int (1 : Int32)), .val (.int (0 : Int32)), .val (.int (0 : Int32)), .val (.int mn), .val (.int mx), .val (.double (9218868437227405312 : UInt64)), .second, .val (.double (18442240474082181120 : UInt64)), .second, .val (.ref b3), .val (.ref b4), .unset, .unset, .unset] [(.double (FP.i2d p4)), (.int (0 : Int32)), (.ref b3)])) rfl rfl (hb hby at_107)
  have f16 := f13.other W15 (Ne.symm ne_b3_b4)
  have K15 : Keep h0 h15 [] := K11.wr W15 (Or.inr sz_b3)
  have Zs15 := Nat.le_trans Zs11 (Keep.of_wr W15).1
  have N15 := Fr.snoc X15 N11 g_b3
  have f17 : Arv Z h15 b3 k3 .double (2 : Int32) [(.double (FP.i2d p4)), (.double (FP.i2d mn))] (.double (0 : UInt64)) := Arv.set Arq14 qq14 Sq14 Nq14 Hq14 Gq14 rfl W15 0 rfl (Nat.le_of_ble_eq_true rfl)
  have jn18 : ∀ target, Steps p.tables e below (T15.setTop (mkF m 128 #[.val (.int p0), .val (.int p1), .val (.int p2), .val (.int p3), .val (.int p4), .val (.int (1 : Int32)), .val (.int (0 : Int32)), .val (.int (0 : Int32)), .val (.int mn), .val (.int mx), .val (.double (9218868437227405312 : UInt64)), .second, .val (.double (18442240474082181120 : UInt64)), .second, .val (.ref b3), .val (.ref b4), .unset, .unset, .unset] [(.double ub), (.int (0 : Int32)), (.ref b4)])) target → Steps p.tables e below (T15.setTop (mkF m 117 #[.val (.int p0), .val (.int p1), .val (.int p2), .val (.int p3), .val (.int p4), .val (.int (1 : Int32)), .val (.int (0 : Int32)), .val (.int (0 : Int32)), .val (.int mn), .val (.int mx), .val (.double (9218868437227405312 : UInt64)), .second, .val (.double (18442240474082181120 : UInt64)), .second, .val (.ref b3), .val (.ref b4), .unset, .unset, .unset] [(.int ((p2 >>> ((2 : Int32) &&& 31)) &&& (1 : Int32))), (.int (0 : Int32)), (.ref b4)])) target := by
    intro target kt
    by_cases hq : ((p2 >>> ((2 : Int32) &&& 31)) &&& (1 : Int32)) = (0 : Int32)
    · rw [if_pos hq] at hj_ub; subst hj_ub
      show Steps p.tables e below (T15.setTop (mkF m 117 #[.val (.int p0), .val (.int p1), .val (.int p2), .val (.int p3), .val (.int p4), .val (.int (1 : Int32)), .val (.int (0 : Int32)), .val (.int (0 : Int32)), .val (.int mn), .val (.int mx), .val (.double (9218868437227405312 : UInt64)), .second, .val (.double (18442240474082181120 : UInt64)), .second, .val (.ref b3), .val (.ref b4), .unset, .unset, .unset] [(.int ((p2 >>> ((2 : Int32) &&& 31)) &&& (1 : Int32))), (.int (0 : Int32)), (.ref b4)])) _
      refine XS.ifYes X15.here hx rfl (pc0 := 117) (pc' := 125) rfl (hb hby at_117) rfl ((if0 _ _).trans (teq hq).1) (by decide) (by decide) ?_
      show Steps p.tables e below (T15.setTop (mkF m 125 #[.val (.int p0), .val (.int p1), .val (.int p2), .val (.int p3), .val (.int p4), .val (.int (1 : Int32)), .val (.int (0 : Int32)), .val (.int (0 : Int32)), .val (.int mn), .val (.int mx), .val (.double (9218868437227405312 : UInt64)), .second, .val (.double (18442240474082181120 : UInt64)), .second, .val (.ref b3), .val (.ref b4), .unset, .unset, .unset] [(.int (0 : Int32)), (.ref b4)])) _
      refine XS.iload X15.here hx rfl (hb hby at_125) rfl ?_
      show Steps p.tables e below (T15.setTop (mkF m 127 #[.val (.int p0), .val (.int p1), .val (.int p2), .val (.int p3), .val (.int p4), .val (.int (1 : Int32)), .val (.int (0 : Int32)), .val (.int (0 : Int32)), .val (.int mn), .val (.int mx), .val (.double (9218868437227405312 : UInt64)), .second, .val (.double (18442240474082181120 : UInt64)), .second, .val (.ref b3), .val (.ref b4), .unset, .unset, .unset] [(.int p4), (.int (0 : Int32)), (.ref b4)])) _
      refine XS.i2dS X15.here hx rfl (hb hby at_127) rfl (v := (FP.i2d p4)) rfl ?_
      show Steps p.tables e below (T15.setTop (mkF m 128 #[.val (.int p0), .val (.int p1), .val (.int p2), .val (.int p3), .val (.int p4), .val (.int (1 : Int32)), .val (.int (0 : Int32)), .val (.int (0 : Int32)), .val (.int mn), .val (.int mx), .val (.double (9218868437227405312 : UInt64)), .second, .val (.double (18442240474082181120 : UInt64)), .second, .val (.ref b3), .val (.ref b4), .unset, .unset, .unset] [(.double (FP.i2d p4)), (.int (0 : Int32)), (.ref b4)])) _
      exact kt
    · rw [if_neg hq] at hj_ub; subst hj_ub
      show Steps p.tables e below (T15.setTop (mkF m 117 #[.val (.int p0), .val (.int p1), .val (.int p2), .val (.int p3), .val (.int p4), .val (.int (1 : Int32)), .val (.int (0 : Int32)), .val (.int (0 : Int32)), .val (.int mn), .val (.int mx), .val (.double (9218868437227405312 : UInt64)), .second, .val (.double (18442240474082181120 : UInt64)), .second, .val (.ref b3), .val (.ref b4), .unset, .unset, .unset] [(.int ((p2 >>> ((2 : Int32) &&& 31)) &&& (1 : Int32))), (.int (0 : Int32)), (.ref b4)])) _
      refine XS.ifNo X15.here hx rfl (hb hby at_117) rfl ((if0 _ _).trans (feq hq).1) ?_
      show Steps p.tables e below (T15.setTop (mkF m 120 #[.val (.int p0), .val (.int p1), .val (.int p2), .val (.int p3), .val (.int p4), .val (.int (1 : Int32)), .val (.int (0 : Int32)), .val (.int (0 : Int32)), .val (.int mn), .val (.int mx), .val (.double (9218868437227405312 : UInt64)), .second, .val (.double (18442240474082181120 : UInt64)), .second, .val (.ref b3), .val (.ref b4), .unset, .unset, .unset] [(.int (0 : Int32)), (.ref b4)])) _
      refine XS.dload X15.here hx rfl (hb hby at_120) rfl ?_
      show Steps p.tables e below (T15.setTop (mkF m 122 #[.val (.int p0), .val (.int p1), .val (.int p2), .val (.int p3), .val (.int p4), .val (.int (1 : Int32)), .val (.int (0 : Int32)), .val (.int (0 : Int32)), .val (.int mn), .val (.int mx), .val (.double (9218868437227405312 : UInt64)), .second, .val (.double (18442240474082181120 : UInt64)), .second, .val (.ref b3), .val (.ref b4), .unset, .unset, .unset] [(.double (9218868437227405312 : UInt64)), (.int (0 : Int32)), (.ref b4)])) _
      refine XS.goto X15.here hx rfl (pc0 := 122) (pc' := 128) rfl (hb hby at_122) (by decide) (by decide) ?_
      show Steps p.tables e below (T15.setTop (mkF m 128 #[.val (.int p0), .val (.int p1), .val (.int p2), .val (.int p3), .val (.int p4), .val (.int (1 : Int32)), .val (.int (0 : Int32)), .val (.int (0 : Int32)), .val (.int mn), .val (.int mx), .val (.double (9218868437227405312 : UInt64)), .second, .val (.double (18442240474082181120 : UInt64)), .second, .val (.ref b3), .val (.ref b4), .unset, .unset, .unset] [(.double (9218868437227405312 : UInt64)), (.int (0 : Int32)), (.ref b4)])) _
      exact kt
  obtain ⟨cq19, Arq19, qq19, Sq19, Nq19, Hq19, Gq19⟩ := id f16
  obtain ⟨T20, h20, X20, e20, W20, st20⟩ := stD X15 hx hZ e15 Arq19 (j := (0 : Int32)) (inb_of Sq19 ⟨by decide, by decide⟩) (g := (mkF m 128 #[.val (.int p0), .val (.int p1), .val (.int p2), .val (.int p3), .val (.int p4), .val (.int (1 : Int32)), .val (.int (0 : Int32)), .val (.int (0 : Int32)), .val (.int mn), .val (.int mx), .val (.double (9218868437227405312 : UInt64)), .second, .val (.double (18442240474082181120 : UInt64)), .second, .val (.ref b3), .val (.ref b4), .unset, .unset, .unset] [(.double ub), (.int (0 : Int32)), (.ref b4)])) rfl rfl (hb hby at_128)
  have f21 := f17.other W20 ne_b3_b4
  have K20 : Keep h0 h20 [] := K15.wr W20 (Or.inr sz_b4)
  have Zs20 := Nat.le_trans Zs15 (Keep.of_wr W20).1
  have N20 := Fr.snoc X20 N15 g_b4
  have f22 : Arv Z h20 b4 k4 .double (2 : Int32) [(.double ub), (.double (FP.i2d mx))] (.double (0 : UInt64)) := Arv.set Arq19 qq19 Sq19 Nq19 Hq19 Gq19 rfl W20 0 rfl (Nat.le_of_ble_eq_true rfl)
  obtain ⟨T23, h23, X23, e23, E23, A23, D23, -, st23⟩ := newO X20 hx hZ hown (hw _ (List.mem_of_getElem? (i := 10) rfl)) (hw _ (List.mem_of_getElem? (i := 11) rfl)) (hw _ (List.mem_of_getElem? (i := 12) rfl)) e20 (g := (mkF m 129 #[.val (.int p0), .val (.int p1), .val (.int p2), .val (.int p3), .val (.int p4), .val (.int (1 : Int32)), .val (.int (0 : Int32)), .val (.int (0 : Int32)), .val (.int mn), .val (.int mx), .val (.double (9218868437227405312 : UInt64)), .second, .val (.double (18442240474082181120 : UInt64)), .second, .val (.ref b3), .val (.ref b4), .unset, .unset, .unset] [])) rfl (hb hby at_129) (by decide) (by decide)
  obtain ⟨b23, g23⟩ : ∃ z, z = h20.size := ⟨_, rfl⟩
  rw [← g23] at A23 D23 st23
  have ne_b3_b23 : b3 ≠ b23 := Nat.ne_of_lt (Nat.lt_of_lt_of_le f21.lt (Nat.le_of_eq g23.symm))
  have ne_b4_b23 : b4 ≠ b23 := Nat.ne_of_lt (Nat.lt_of_lt_of_le f22.lt (Nat.le_of_eq g23.symm))
  have g_b23 : n0 ≤ b23 := Nat.le_trans Zs20 (Nat.le_of_eq g23.symm)
  have sz_b23 : h0.size ≤ b23 := Nat.le_trans K20.1 (Nat.le_of_eq g23.symm)
  have f24 := f21.ext E23
  have f25 := f22.ext E23
  have K23 : Keep h0 h23 [] := K20.ext E23
  have Zs23 := Nat.le_trans Zs20 E23.1
  have F23_lower : Fld Z h23 b23 "com/example/hedge/hedge/ValueBounds" "lower" "[D" .null := D23 (Or.inr (hw _ (List.mem_of_getElem? (i := 27) rfl))) (ty := (.array .double)) (by decide)
  have F23_upper : Fld Z h23 b23 "com/example/hedge/hedge/ValueBounds" "upper" "[D" .null := D23 (Or.inr (hw _ (List.mem_of_getElem? (i := 29) rfl))) (ty := (.array .double)) (by decide)
  have F23_strategy : Fld Z h23 b23 "com/example/hedge/hedge/ValueBounds" "strategy" "[[I" .null := D23 (Or.inr (hw _ (List.mem_of_getElem? (i := 31) rfl))) (ty := (.array (.array .int))) (by decide)
  obtain ⟨T26, h26, k26, X26, e26, E26, A26, B26, st26⟩ := newPE X23 hx hZ (hw _ (List.mem_of_getElem? (i := 13) rfl)) e23 (g := (mkF m 138 #[.val (.int p0), .val (.int p1), .val (.int p2), .val (.int p3), .val (.int p4), .val (.int (1 : Int32)), .val (.int (0 : Int32)), .val (.int (0 : Int32)), .val (.int mn), .val (.int mx), .val (.double (9218868437227405312 : UInt64)), .second, .val (.double (18442240474082181120 : UInt64)), .second, .val (.ref b3), .val (.ref b4), .unset, .unset, .unset] [(.int (2 : Int32)), (.ref b4), (.ref b3), (.ref b23), (.ref b23)])) rfl (hb hby at_138) rfl (by decide) (cap := 2) (by decide) (by decide) (by decide) (by decide) (ad := "[I") rfl
  obtain ⟨b26, g26⟩ : ∃ z, z = h23.size := ⟨_, rfl⟩
  rw [← g26] at A26 st26 B26
  have ne_b3_b26 : b3 ≠ b26 := Nat.ne_of_lt (Nat.lt_of_lt_of_le f24.lt (Nat.le_of_eq g26.symm))
  have ne_b4_b26 : b4 ≠ b26 := Nat.ne_of_lt (Nat.lt_of_lt_of_le f25.lt (Nat.le_of_eq g26.symm))
  have ne_b23_b26 : b23 ≠ b26 := Nat.ne_of_lt (Nat.lt_of_lt_of_le A23.lt (Nat.le_of_eq g26.symm))
  have g_b26 : n0 ≤ b26 := Nat.le_trans Zs23 (Nat.le_of_eq g26.symm)
  have sz_b26 : h0.size ≤ b26 := Nat.le_trans K23.1 (Nat.le_of_eq g26.symm)
  have f27 := f24.ext E26
  have f28 := f25.ext E26
  have f29 := A23.ext E26
  have f30 := F23_lower.ext E26
  have f31 := F23_upper.ext E26
  have f32 := F23_strategy.ext E26
  have K26 : Keep h0 h26 [] := K23.ext E26
  have Zs26 := Nat.le_trans Zs23 E26.1
  have V26 : Arv Z h26 b26 k26 .int (2 : Int32) [(.int (0 : Int32)), (.int (0 : Int32))] (.int (0 : Int32)) := (Arv.new A26 (by decide)).pad (pad_rep [] (.int (0 : Int32)) 2)
  obtain ⟨cq33, Arq33, qq33, Sq33, Nq33, Hq33, Gq33⟩ := id V26
  obtain ⟨T34, h34, X34, e34, W34, st34⟩ := stI X26 hx hZ e26 Arq33 (j := (0 : Int32)) (inb_of Sq33 ⟨by decide, by decide⟩) (g := (mkF m 143 #[.val (.int p0), .val (.int p1), .val (.int p2), .val (.int p3), .val (.int p4), .val (.int (1 : Int32)), .val (.int (0 : Int32)), .val (.int (0 : Int32)), .val (.int mn), .val (.int mx), .val (.double (9218868437227405312 : UInt64)), .second, .val (.double (18442240474082181120 : UInt64)), .second, .val (.ref b3), .val (.ref b4), .unset, .unset, .unset] [(.int (-1 : Int32)), (.int (0 : Int32)), (.ref b26), (.ref b26), (.ref b4), (.ref b3), (.ref b23), (.ref b23)])) rfl rfl (hb hby at_143)
  have f35 := f27.other W34 ne_b3_b26
  have f36 := f28.other W34 ne_b4_b26
  have f37 := f29.wr W34
  have f38 := f30.other W34 (Or.inl ne_b23_b26)
  have f39 := f31.other W34 (Or.inl ne_b23_b26)
  have f40 := f32.other W34 (Or.inl ne_b23_b26)
  have f41 := B26.wr W34
  have K34 : Keep h0 h34 [] := K26.wr W34 (Or.inr sz_b26)
  have Zs34 := Nat.le_trans Zs26 (Keep.of_wr W34).1
  have N34 := Fr.snoc X34 N20 g_b26
  have f42 : Arv Z h34 b26 k26 .int (2 : Int32) [(.int (-1 : Int32)), (.int (0 : Int32))] (.int (0 : Int32)) := Arv.set Arq33 qq33 Sq33 Nq33 Hq33 Gq33 rfl W34 0 rfl (Nat.le_of_ble_eq_true rfl)
  obtain ⟨cq43, Arq43, qq43, Sq43, Nq43, Hq43, Gq43⟩ := id f42
  obtain ⟨T44, h44, X44, e44, W44, st44⟩ := stI X34 hx hZ e34 Arq43 (j := (1 : Int32)) (inb_of Sq43 ⟨by decide, by decide⟩) (g := (mkF m 147 #[.val (.int p0), .val (.int p1), .val (.int p2), .val (.int p3), .val (.int p4), .val (.int (1 : Int32)), .val (.int (0 : Int32)), .val (.int (0 : Int32)), .val (.int mn), .val (.int mx), .val (.double (9218868437227405312 : UInt64)), .second, .val (.double (18442240474082181120 : UInt64)), .second, .val (.ref b3), .val (.ref b4), .unset, .unset, .unset] [(.int (-1 : Int32)), (.int (1 : Int32)), (.ref b26), (.ref b26), (.ref b4), (.ref b3), (.ref b23), (.ref b23)])) rfl rfl (hb hby at_147)
  have f45 := f35.other W44 ne_b3_b26
  have f46 := f36.other W44 ne_b4_b26
  have f47 := f37.wr W44
  have f48 := f38.other W44 (Or.inl ne_b23_b26)
  have f49 := f39.other W44 (Or.inl ne_b23_b26)
  have f50 := f40.other W44 (Or.inl ne_b23_b26)
  have f51 := f41.wr W44
  have K44 : Keep h0 h44 [] := K34.wr W44 (Or.inr sz_b26)
  have Zs44 := Nat.le_trans Zs34 (Keep.of_wr W44).1
  have N44 := Fr.snoc X44 N34 g_b26
  have f52 : Arv Z h44 b26 k26 .int (2 : Int32) [(.int (-1 : Int32)), (.int (-1 : Int32))] (.int (0 : Int32)) := Arv.set Arq43 qq43 Sq43 Nq43 Hq43 Gq43 rfl W44 1 rfl (Nat.le_of_ble_eq_true rfl)
  obtain ⟨_, _, ⟨T53, L53, k53, n53⟩, -, X53, ⟨Lc53, hQ53, l53, y53, z53⟩, st53⟩ := X44.specialBack hx (y := (⟨"com/example/hedge/hedge/ValueBounds", "<init>", "([D[D[I)V"⟩ : MethodName)) rfl hown (mvT hZ (hw _ (List.mem_of_getElem? (i := 14) rfl))) (mvT hZ (hw _ (List.mem_of_getElem? (i := 15) rfl))) (mvT hZ (hw _ (List.mem_of_getElem? (i := 16) rfl))) (by decide) (backOf (W := 1) (rm3 l Z a0 hw [] b23 b3 b4 b26 h44 n0 Zs44 f47 g_b23 f48 f49 f50 f51) hZ (hw _ (List.mem_of_getElem? (i := 16) rfl)) (hw _ (List.mem_of_getElem? (i := 12) rfl)) (by decide) (by decide)) (g := (mkF m 148 #[.val (.int p0), .val (.int p1), .val (.int p2), .val (.int p3), .val (.int p4), .val (.int (1 : Int32)), .val (.int (0 : Int32)), .val (.int (0 : Int32)), .val (.int mn), .val (.int mx), .val (.double (9218868437227405312 : UInt64)), .second, .val (.double (18442240474082181120 : UInt64)), .second, .val (.ref b3), .val (.ref b4), .unset, .unset, .unset] [(.ref b26), (.ref b4), (.ref b3), (.ref b23), (.ref b23)])) rfl (by rw [hml]; rfl) (Steps.refl _) (a := b23) (argsL := [(.ref b3), (.ref b4), (.ref b26)]) (rest := [(.ref b23)]) (lenOf pd_2 rfl) rfl (by show 2 * 0 + _ ≤ _; exact Nat.le_of_eq rfl) (hb hby at_148) (fun _ _ => ⟨rfl, e44, (by decide : 4 + 1 ≤ _), (by decide : 9 + 1 ≤ _)⟩)
  dsimp only [Pt.U, Pt.locs, Pt.cells, Pt.slots] at X53 l53 y53 z53 st53 hQ53
  subst l53 y53 z53
  obtain ⟨rfl, N53q, K53q, f54, f55, f56⟩ := hQ53
  have N53 := Fr.app N44 N53q
  have f57 := f45.keep K53q (own_niS ne_b3_b23 own_ni0)
  have f58 := f46.keep K53q (own_niS ne_b4_b23 own_ni0)
  have f59 := f47.keep K53q
  have f60 := f52.keep K53q (own_niS (Ne.symm ne_b23_b26) own_ni0)
  have f61 := f51.keep K53q
  have K53 : Keep h0 T53.heap [] := K44.trans K53q (own_allS (Or.inr sz_b23) own_all0)
  have Zs53 := Nat.le_trans Zs44 K53q.1
  obtain ⟨cq62, kq62, q62a, q62b, q62c⟩ := isOf hZ rfl f54
  obtain ⟨_, _, ⟨T62, L62, k62, n62⟩, -, X62, ⟨Lc62, hQ62, l62, y62, z62⟩, st62⟩ := X53.virtualBack hx (y := (⟨"com/example/hedge/hedge/ValueBounds", "value", "(I)D"⟩ : MethodName)) (z := (⟨"com/example/hedge/hedge/ValueBounds", "value", "(I)D"⟩ : MethodName)) hown (mvT hZ (hw _ (List.mem_of_getElem? (i := 32) rfl))) (mvT hZ (hw _ (List.mem_of_getElem? (i := 33) rfl))) (notFace_of_selects (args := #[]) (mvT hZ (hw _ (List.mem_of_getElem? (i := 35) rfl)))) (mvT hZ (hw _ (List.mem_of_getElem? (i := 35) rfl))) (mvT hZ (hw _ (List.mem_of_getElem? (i := 34) rfl))) (by decide) (backOf (W := 0) (rm6_1f l Z a0 hw [] b23 b3 b4 k3 k4 (FP.i2d p4) (FP.i2d mn) ub (FP.i2d mx) T53.heap n0 Zs53 f55 f56 f57 f58 hd9_157 nn32_157 nn36_157) hZ (hw _ (List.mem_of_getElem? (i := 36) rfl)) (hw _ (List.mem_of_getElem? (i := 12) rfl)) (by decide) (by decide)) q62a q62c (g := (mkF m 157 #[.val (.int p0), .val (.int p1), .val (.int p2), .val (.int p3), .val (.int p4), .val (.int (1 : Int32)), .val (.int (0 : Int32)), .val (.int (0 : Int32)), .val (.int mn), .val (.int mx), .val (.double (9218868437227405312 : UInt64)), .second, .val (.double (18442240474082181120 : UInt64)), .second, .val (.ref b3), .val (.ref b4), .val (.ref b23), .unset, .unset] [(.int (1 : Int32)), (.ref b23)])) rfl (by rw [hml]; rfl) (Steps.refl _) (argsL := [(.int (1 : Int32))]) (rest := []) (lenOf pd_3 rfl) rfl (by show 2 * 0 + _ ≤ _; exact Nat.le_of_eq rfl) (hb hby at_157) (fun _ _ => ⟨rfl, rfl, (by decide : 5 + 0 ≤ _), (by decide : 10 + 0 ≤ _)⟩)
  dsimp only [Pt.U, Pt.locs, Pt.cells, Pt.slots] at X62 l62 y62 z62 st62 hQ62
  subst l62 y62 z62
  obtain ⟨rfl, N62q, eh62⟩ := hQ62
  have N62 := Fr.app N53 N62q
  have e62 : T62.heap = T53.heap := eh62
  obtain ⟨fs, hr, hrun, hended, hW, hsame⟩ := X62.leave (v := some (.int (1 : Int32))) (fun h => by rw [Bd.returns] at h; cases h)
  refine ⟨_, _, pre0 _ ?_, hrun, hended, _, _, rfl, ?_, ⟨_, rfl⟩, hW, hsame.mono (by decide) (by decide)⟩
  · show Steps p.tables e below (s₁.setTop (mkF m 0 #[.val (.int p0), .val (.int p1), .val (.int p2), .val (.int p3), .val (.int p4), .unset, .unset, .unset, .unset, .unset, .unset, .unset, .unset, .unset, .unset, .unset, .unset, .unset, .unset] [])) _
    refine XS.iloadN X0.here hx rfl (hb hby at_0) rfl ?_
    show Steps p.tables e below (s₁.setTop (mkF m 1 #[.val (.int p0), .val (.int p1), .val (.int p2), .val (.int p3), .val (.int p4), .unset, .unset, .unset, .unset, .unset, .unset, .unset, .unset, .unset, .unset, .unset, .unset, .unset, .unset] [(.int p3)])) _
    refine XS.iconst X0.here hx rfl (hb hby at_1) ?_
    show Steps p.tables e below (s₁.setTop (mkF m 2 #[.val (.int p0), .val (.int p1), .val (.int p2), .val (.int p3), .val (.int p4), .unset, .unset, .unset, .unset, .unset, .unset, .unset, .unset, .unset, .unset, .unset, .unset, .unset, .unset] [(.int (1 : Int32)), (.int p3)])) _
    refine XS.iand X0.here hx rfl (hb hby at_2) rfl ?_
    show Steps p.tables e below (s₁.setTop (mkF m 3 #[.val (.int p0), .val (.int p1), .val (.int p2), .val (.int p3), .val (.int p4), .unset, .unset, .unset, .unset, .unset, .unset, .unset, .unset, .unset, .unset, .unset, .unset, .unset, .unset] [(.int (p3 &&& (1 : Int32)))])) _
    rw [hv2]
    show Steps p.tables e below (s₁.setTop (mkF m 3 #[.val (.int p0), .val (.int p1), .val (.int p2), .val (.int p3), .val (.int p4), .unset, .unset, .unset, .unset, .unset, .unset, .unset, .unset, .unset, .unset, .unset, .unset, .unset, .unset] [(.int (1 : Int32))])) _
    refine XS.istore X0.here hx rfl (hb hby at_3) rfl (l' := #[.val (.int p0), .val (.int p1), .val (.int p2), .val (.int p3), .val (.int p4), .val (.int (1 : Int32)), .unset, .unset, .unset, .unset, .unset, .unset, .unset, .unset, .unset, .unset, .unset, .unset, .unset]) rfl ?_
    show Steps p.tables e below (s₁.setTop (mkF m 5 #[.val (.int p0), .val (.int p1), .val (.int p2), .val (.int p3), .val (.int p4), .val (.int (1 : Int32)), .unset, .unset, .unset, .unset, .unset, .unset, .unset, .unset, .unset, .unset, .unset, .unset, .unset] [])) _
    refine XS.iconst X0.here hx rfl (hb hby at_5) ?_
    show Steps p.tables e below (s₁.setTop (mkF m 6 #[.val (.int p0), .val (.int p1), .val (.int p2), .val (.int p3), .val (.int p4), .val (.int (1 : Int32)), .unset, .unset, .unset, .unset, .unset, .unset, .unset, .unset, .unset, .unset, .unset, .unset, .unset] [(.int (1 : Int32))])) _
    refine XS.iload X0.here hx rfl (hb hby at_6) rfl ?_
    show Steps p.tables e below (s₁.setTop (mkF m 8 #[.val (.int p0), .val (.int p1), .val (.int p2), .val (.int p3), .val (.int p4), .val (.int (1 : Int32)), .unset, .unset, .unset, .unset, .unset, .unset, .unset, .unset, .unset, .unset, .unset, .unset, .unset] [(.int (1 : Int32)), (.int (1 : Int32))])) _
    refine XS.isub X0.here hx rfl (hb hby at_8) rfl ?_
    show Steps p.tables e below (s₁.setTop (mkF m 9 #[.val (.int p0), .val (.int p1), .val (.int p2), .val (.int p3), .val (.int p4), .val (.int (1 : Int32)), .unset, .unset, .unset, .unset, .unset, .unset, .unset, .unset, .unset, .unset, .unset, .unset, .unset] [(.int ((1 : Int32) - (1 : Int32)))])) _
    rw [show ((1 : Int32) - (1 : Int32)) = (0 : Int32) by decide]
    show Steps p.tables e below (s₁.setTop (mkF m 9 #[.val (.int p0), .val (.int p1), .val (.int p2), .val (.int p3), .val (.int p4), .val (.int (1 : Int32)), .unset, .unset, .unset, .unset, .unset, .unset, .unset, .unset, .unset, .unset, .unset, .unset, .unset] [(.int (0 : Int32))])) _
    refine XS.istore X0.here hx rfl (hb hby at_9) rfl (l' := #[.val (.int p0), .val (.int p1), .val (.int p2), .val (.int p3), .val (.int p4), .val (.int (1 : Int32)), .val (.int (0 : Int32)), .unset, .unset, .unset, .unset, .unset, .unset, .unset, .unset, .unset, .unset, .unset, .unset]) rfl ?_
    show Steps p.tables e below (s₁.setTop (mkF m 11 #[.val (.int p0), .val (.int p1), .val (.int p2), .val (.int p3), .val (.int p4), .val (.int (1 : Int32)), .val (.int (0 : Int32)), .unset, .unset, .unset, .unset, .unset, .unset, .unset, .unset, .unset, .unset, .unset, .unset] [])) _
    refine XS.iloadN X0.here hx rfl (hb hby at_11) rfl ?_
    show Steps p.tables e below (s₁.setTop (mkF m 12 #[.val (.int p0), .val (.int p1), .val (.int p2), .val (.int p3), .val (.int p4), .val (.int (1 : Int32)), .val (.int (0 : Int32)), .unset, .unset, .unset, .unset, .unset, .unset, .unset, .unset, .unset, .unset, .unset, .unset] [(.int p2)])) _
    refine XS.iconst X0.here hx rfl (hb hby at_12) ?_
    show Steps p.tables e below (s₁.setTop (mkF m 13 #[.val (.int p0), .val (.int p1), .val (.int p2), .val (.int p3), .val (.int p4), .val (.int (1 : Int32)), .val (.int (0 : Int32)), .unset, .unset, .unset, .unset, .unset, .unset, .unset, .unset, .unset, .unset, .unset, .unset] [(.int (3 : Int32)), (.int p2)])) _
    refine XS.iand X0.here hx rfl (hb hby at_13) rfl ?_
    show Steps p.tables e below (s₁.setTop (mkF m 14 #[.val (.int p0), .val (.int p1), .val (.int p2), .val (.int p3), .val (.int p4), .val (.int (1 : Int32)), .val (.int (0 : Int32)), .unset, .unset, .unset, .unset, .unset, .unset, .unset, .unset, .unset, .unset, .unset, .unset] [(.int (p2 &&& (3 : Int32)))])) _
    rw [hv13]
    show Steps p.tables e below (s₁.setTop (mkF m 14 #[.val (.int p0), .val (.int p1), .val (.int p2), .val (.int p3), .val (.int p4), .val (.int (1 : Int32)), .val (.int (0 : Int32)), .unset, .unset, .unset, .unset, .unset, .unset, .unset, .unset, .unset, .unset, .unset, .unset] [(.int (0 : Int32))])) _
    refine XS.istore X0.here hx rfl (hb hby at_14) rfl (l' := #[.val (.int p0), .val (.int p1), .val (.int p2), .val (.int p3), .val (.int p4), .val (.int (1 : Int32)), .val (.int (0 : Int32)), .val (.int (0 : Int32)), .unset, .unset, .unset, .unset, .unset, .unset, .unset, .unset, .unset, .unset, .unset]) rfl ?_
    show Steps p.tables e below (s₁.setTop (mkF m 16 #[.val (.int p0), .val (.int p1), .val (.int p2), .val (.int p3), .val (.int p4), .val (.int (1 : Int32)), .val (.int (0 : Int32)), .val (.int (0 : Int32)), .unset, .unset, .unset, .unset, .unset, .unset, .unset, .unset, .unset, .unset, .unset] [])) _
    refine XS.iloadN X0.here hx rfl (hb hby at_16) rfl ?_
    show Steps p.tables e below (s₁.setTop (mkF m 17 #[.val (.int p0), .val (.int p1), .val (.int p2), .val (.int p3), .val (.int p4), .val (.int (1 : Int32)), .val (.int (0 : Int32)), .val (.int (0 : Int32)), .unset, .unset, .unset, .unset, .unset, .unset, .unset, .unset, .unset, .unset, .unset] [(.int p0)])) _
    refine XS.iloadN X0.here hx rfl (hb hby at_17) rfl ?_
    show Steps p.tables e below (s₁.setTop (mkF m 18 #[.val (.int p0), .val (.int p1), .val (.int p2), .val (.int p3), .val (.int p4), .val (.int (1 : Int32)), .val (.int (0 : Int32)), .val (.int (0 : Int32)), .unset, .unset, .unset, .unset, .unset, .unset, .unset, .unset, .unset, .unset, .unset] [(.int p1), (.int p0)])) _
    refine st1 _ ?_
    show Steps p.tables e below (T1.setTop (mkF m 21 #[.val (.int p0), .val (.int p1), .val (.int p2), .val (.int p3), .val (.int p4), .val (.int (1 : Int32)), .val (.int (0 : Int32)), .val (.int (0 : Int32)), .unset, .unset, .unset, .unset, .unset, .unset, .unset, .unset, .unset, .unset, .unset] [(.int mn)])) _
    refine XS.istore X1.here hx rfl (hb hby at_21) rfl (l' := #[.val (.int p0), .val (.int p1), .val (.int p2), .val (.int p3), .val (.int p4), .val (.int (1 : Int32)), .val (.int (0 : Int32)), .val (.int (0 : Int32)), .val (.int mn), .unset, .unset, .unset, .unset, .unset, .unset, .unset, .unset, .unset, .unset]) rfl ?_
    show Steps p.tables e below (T1.setTop (mkF m 23 #[.val (.int p0), .val (.int p1), .val (.int p2), .val (.int p3), .val (.int p4), .val (.int (1 : Int32)), .val (.int (0 : Int32)), .val (.int (0 : Int32)), .val (.int mn), .unset, .unset, .unset, .unset, .unset, .unset, .unset, .unset, .unset, .unset] [])) _
    refine XS.iloadN X1.here hx rfl (hb hby at_23) rfl ?_
    show Steps p.tables e below (T1.setTop (mkF m 24 #[.val (.int p0), .val (.int p1), .val (.int p2), .val (.int p3), .val (.int p4), .val (.int (1 : Int32)), .val (.int (0 : Int32)), .val (.int (0 : Int32)), .val (.int mn), .unset, .unset, .unset, .unset, .unset, .unset, .unset, .unset, .unset, .unset] [(.int p0)])) _
    refine XS.iloadN X1.here hx rfl (hb hby at_24) rfl ?_
    show Steps p.tables e below (T1.setTop (mkF m 25 #[.val (.int p0), .val (.int p1), .val (.int p2), .val (.int p3), .val (.int p4), .val (.int (1 : Int32)), .val (.int (0 : Int32)), .val (.int (0 : Int32)), .val (.int mn), .unset, .unset, .unset, .unset, .unset, .unset, .unset, .unset, .unset, .unset] [(.int p1), (.int p0)])) _
    refine st2 _ ?_
    show Steps p.tables e below (T2.setTop (mkF m 28 #[.val (.int p0), .val (.int p1), .val (.int p2), .val (.int p3), .val (.int p4), .val (.int (1 : Int32)), .val (.int (0 : Int32)), .val (.int (0 : Int32)), .val (.int mn), .unset, .unset, .unset, .unset, .unset, .unset, .unset, .unset, .unset, .unset] [(.int mx)])) _
    refine XS.istore X2.here hx rfl (hb hby at_28) rfl (l' := #[.val (.int p0), .val (.int p1), .val (.int p2), .val (.int p3), .val (.int p4), .val (.int (1 : Int32)), .val (.int (0 : Int32)), .val (.int (0 : Int32)), .val (.int mn), .val (.int mx), .unset, .unset, .unset, .unset, .unset, .unset, .unset, .unset, .unset]) rfl ?_
    show Steps p.tables e below (T2.setTop (mkF m 30 #[.val (.int p0), .val (.int p1), .val (.int p2), .val (.int p3), .val (.int p4), .val (.int (1 : Int32)), .val (.int (0 : Int32)), .val (.int (0 : Int32)), .val (.int mn), .val (.int mx), .unset, .unset, .unset, .unset, .unset, .unset, .unset, .unset, .unset] [])) _
    refine X2.ldc2DoubleC hx hown (mvT hZ (hw _ (List.mem_of_getElem? (i := 7) rfl))) (g := (mkF m 30 #[.val (.int p0), .val (.int p1), .val (.int p2), .val (.int p3), .val (.int p4), .val (.int (1 : Int32)), .val (.int (0 : Int32)), .val (.int (0 : Int32)), .val (.int mn), .val (.int mx), .unset, .unset, .unset, .unset, .unset, .unset, .unset, .unset, .unset] [])) rfl (hb hby at_30) _ ?_
    show Steps p.tables e below (T2.setTop (mkF m 33 #[.val (.int p0), .val (.int p1), .val (.int p2), .val (.int p3), .val (.int p4), .val (.int (1 : Int32)), .val (.int (0 : Int32)), .val (.int (0 : Int32)), .val (.int mn), .val (.int mx), .unset, .unset, .unset, .unset, .unset, .unset, .unset, .unset, .unset] [(.double (9218868437227405312 : UInt64))])) _
    refine XS.dstore X2.here hx rfl (hb hby at_33) rfl (l' := #[.val (.int p0), .val (.int p1), .val (.int p2), .val (.int p3), .val (.int p4), .val (.int (1 : Int32)), .val (.int (0 : Int32)), .val (.int (0 : Int32)), .val (.int mn), .val (.int mx), .val (.double (9218868437227405312 : UInt64)), .second, .unset, .unset, .unset, .unset, .unset, .unset, .unset]) rfl ?_
    show Steps p.tables e below (T2.setTop (mkF m 35 #[.val (.int p0), .val (.int p1), .val (.int p2), .val (.int p3), .val (.int p4), .val (.int (1 : Int32)), .val (.int (0 : Int32)), .val (.int (0 : Int32)), .val (.int mn), .val (.int mx), .val (.double (9218868437227405312 : UInt64)), .second, .unset, .unset, .unset, .unset, .unset, .unset, .unset] [])) _
    refine X2.ldc2DoubleC hx hown (mvT hZ (hw _ (List.mem_of_getElem? (i := 8) rfl))) (g := (mkF m 35 #[.val (.int p0), .val (.int p1), .val (.int p2), .val (.int p3), .val (.int p4), .val (.int (1 : Int32)), .val (.int (0 : Int32)), .val (.int (0 : Int32)), .val (.int mn), .val (.int mx), .val (.double (9218868437227405312 : UInt64)), .second, .unset, .unset, .unset, .unset, .unset, .unset, .unset] [])) rfl (hb hby at_35) _ ?_
    show Steps p.tables e below (T2.setTop (mkF m 38 #[.val (.int p0), .val (.int p1), .val (.int p2), .val (.int p3), .val (.int p4), .val (.int (1 : Int32)), .val (.int (0 : Int32)), .val (.int (0 : Int32)), .val (.int mn), .val (.int mx), .val (.double (9218868437227405312 : UInt64)), .second, .unset, .unset, .unset, .unset, .unset, .unset, .unset] [(.double (18442240474082181120 : UInt64))])) _
    refine XS.dstore X2.here hx rfl (hb hby at_38) rfl (l' := #[.val (.int p0), .val (.int p1), .val (.int p2), .val (.int p3), .val (.int p4), .val (.int (1 : Int32)), .val (.int (0 : Int32)), .val (.int (0 : Int32)), .val (.int mn), .val (.int mx), .val (.double (9218868437227405312 : UInt64)), .second, .val (.double (18442240474082181120 : UInt64)), .second, .unset, .unset, .unset, .unset, .unset]) rfl ?_
    show Steps p.tables e below (T2.setTop (mkF m 40 #[.val (.int p0), .val (.int p1), .val (.int p2), .val (.int p3), .val (.int p4), .val (.int (1 : Int32)), .val (.int (0 : Int32)), .val (.int (0 : Int32)), .val (.int mn), .val (.int mx), .val (.double (9218868437227405312 : UInt64)), .second, .val (.double (18442240474082181120 : UInt64)), .second, .unset, .unset, .unset, .unset, .unset] [])) _
    refine XS.iconst X2.here hx rfl (hb hby at_40) ?_
    show Steps p.tables e below (T2.setTop (mkF m 41 #[.val (.int p0), .val (.int p1), .val (.int p2), .val (.int p3), .val (.int p4), .val (.int (1 : Int32)), .val (.int (0 : Int32)), .val (.int (0 : Int32)), .val (.int mn), .val (.int mx), .val (.double (9218868437227405312 : UInt64)), .second, .val (.double (18442240474082181120 : UInt64)), .second, .unset, .unset, .unset, .unset, .unset] [(.int (2 : Int32))])) _
    refine st3 _ ?_
    show Steps p.tables e below (T3.setTop (mkF m 43 #[.val (.int p0), .val (.int p1), .val (.int p2), .val (.int p3), .val (.int p4), .val (.int (1 : Int32)), .val (.int (0 : Int32)), .val (.int (0 : Int32)), .val (.int mn), .val (.int mx), .val (.double (9218868437227405312 : UInt64)), .second, .val (.double (18442240474082181120 : UInt64)), .second, .unset, .unset, .unset, .unset, .unset] [(.ref b3)])) _
    refine XS.astore X3.here hx rfl (hb hby at_43) rfl rfl (l' := #[.val (.int p0), .val (.int p1), .val (.int p2), .val (.int p3), .val (.int p4), .val (.int (1 : Int32)), .val (.int (0 : Int32)), .val (.int (0 : Int32)), .val (.int mn), .val (.int mx), .val (.double (9218868437227405312 : UInt64)), .second, .val (.double (18442240474082181120 : UInt64)), .second, .val (.ref b3), .unset, .unset, .unset, .unset]) rfl ?_
    show Steps p.tables e below (T3.setTop (mkF m 45 #[.val (.int p0), .val (.int p1), .val (.int p2), .val (.int p3), .val (.int p4), .val (.int (1 : Int32)), .val (.int (0 : Int32)), .val (.int (0 : Int32)), .val (.int mn), .val (.int mx), .val (.double (9218868437227405312 : UInt64)), .second, .val (.double (18442240474082181120 : UInt64)), .second, .val (.ref b3), .unset, .unset, .unset, .unset] [])) _
    refine XS.iconst X3.here hx rfl (hb hby at_45) ?_
    show Steps p.tables e below (T3.setTop (mkF m 46 #[.val (.int p0), .val (.int p1), .val (.int p2), .val (.int p3), .val (.int p4), .val (.int (1 : Int32)), .val (.int (0 : Int32)), .val (.int (0 : Int32)), .val (.int mn), .val (.int mx), .val (.double (9218868437227405312 : UInt64)), .second, .val (.double (18442240474082181120 : UInt64)), .second, .val (.ref b3), .unset, .unset, .unset, .unset] [(.int (2 : Int32))])) _
    refine st4 _ ?_
    show Steps p.tables e below (T4.setTop (mkF m 48 #[.val (.int p0), .val (.int p1), .val (.int p2), .val (.int p3), .val (.int p4), .val (.int (1 : Int32)), .val (.int (0 : Int32)), .val (.int (0 : Int32)), .val (.int mn), .val (.int mx), .val (.double (9218868437227405312 : UInt64)), .second, .val (.double (18442240474082181120 : UInt64)), .second, .val (.ref b3), .unset, .unset, .unset, .unset] [(.ref b4)])) _
    refine XS.astore X4.here hx rfl (hb hby at_48) rfl rfl (l' := #[.val (.int p0), .val (.int p1), .val (.int p2), .val (.int p3), .val (.int p4), .val (.int (1 : Int32)), .val (.int (0 : Int32)), .val (.int (0 : Int32)), .val (.int mn), .val (.int mx), .val (.double (9218868437227405312 : UInt64)), .second, .val (.double (18442240474082181120 : UInt64)), .second, .val (.ref b3), .val (.ref b4), .unset, .unset, .unset]) rfl ?_
    show Steps p.tables e below (T4.setTop (mkF m 50 #[.val (.int p0), .val (.int p1), .val (.int p2), .val (.int p3), .val (.int p4), .val (.int (1 : Int32)), .val (.int (0 : Int32)), .val (.int (0 : Int32)), .val (.int mn), .val (.int mx), .val (.double (9218868437227405312 : UInt64)), .second, .val (.double (18442240474082181120 : UInt64)), .second, .val (.ref b3), .val (.ref b4), .unset, .unset, .unset] [])) _
    refine XS.aload X4.here hx rfl (hb hby at_50) rfl rfl ?_
    show Steps p.tables e below (T4.setTop (mkF m 52 #[.val (.int p0), .val (.int p1), .val (.int p2), .val (.int p3), .val (.int p4), .val (.int (1 : Int32)), .val (.int (0 : Int32)), .val (.int (0 : Int32)), .val (.int mn), .val (.int mx), .val (.double (9218868437227405312 : UInt64)), .second, .val (.double (18442240474082181120 : UInt64)), .second, .val (.ref b3), .val (.ref b4), .unset, .unset, .unset] [(.ref b3)])) _
    refine XS.iload X4.here hx rfl (hb hby at_52) rfl ?_
    show Steps p.tables e below (T4.setTop (mkF m 54 #[.val (.int p0), .val (.int p1), .val (.int p2), .val (.int p3), .val (.int p4), .val (.int (1 : Int32)), .val (.int (0 : Int32)), .val (.int (0 : Int32)), .val (.int mn), .val (.int mx), .val (.double (9218868437227405312 : UInt64)), .second, .val (.double (18442240474082181120 : UInt64)), .second, .val (.ref b3), .val (.ref b4), .unset, .unset, .unset] [(.int (1 : Int32)), (.ref b3)])) _
    refine XS.iload X4.here hx rfl (hb hby at_54) rfl ?_
    show Steps p.tables e below (T4.setTop (mkF m 56 #[.val (.int p0), .val (.int p1), .val (.int p2), .val (.int p3), .val (.int p4), .val (.int (1 : Int32)), .val (.int (0 : Int32)), .val (.int (0 : Int32)), .val (.int mn), .val (.int mx), .val (.double (9218868437227405312 : UInt64)), .second, .val (.double (18442240474082181120 : UInt64)), .second, .val (.ref b3), .val (.ref b4), .unset, .unset, .unset] [(.int (0 : Int32)), (.int (1 : Int32)), (.ref b3)])) _
    refine XS.iconst X4.here hx rfl (hb hby at_56) ?_
    show Steps p.tables e below (T4.setTop (mkF m 57 #[.val (.int p0), .val (.int p1), .val (.int p2), .val (.int p3), .val (.int p4), .val (.int (1 : Int32)), .val (.int (0 : Int32)), .val (.int (0 : Int32)), .val (.int mn), .val (.int mx), .val (.double (9218868437227405312 : UInt64)), .second, .val (.double (18442240474082181120 : UInt64)), .second, .val (.ref b3), .val (.ref b4), .unset, .unset, .unset] [(.int (2 : Int32)), (.int (0 : Int32)), (.int (1 : Int32)), (.ref b3)])) _
    refine XS.icmpNo X4.here hx rfl (hb hby at_57) rfl (feq (by decide : ¬ ((0 : Int32) = (2 : Int32)))).1 ?_
    show Steps p.tables e below (T4.setTop (mkF m 60 #[.val (.int p0), .val (.int p1), .val (.int p2), .val (.int p3), .val (.int p4), .val (.int (1 : Int32)), .val (.int (0 : Int32)), .val (.int (0 : Int32)), .val (.int mn), .val (.int mx), .val (.double (9218868437227405312 : UInt64)), .second, .val (.double (18442240474082181120 : UInt64)), .second, .val (.ref b3), .val (.ref b4), .unset, .unset, .unset] [(.int (1 : Int32)), (.ref b3)])) _
    refine XS.iload X4.here hx rfl (hb hby at_60) rfl ?_
    show Steps p.tables e below (T4.setTop (mkF m 62 #[.val (.int p0), .val (.int p1), .val (.int p2), .val (.int p3), .val (.int p4), .val (.int (1 : Int32)), .val (.int (0 : Int32)), .val (.int (0 : Int32)), .val (.int mn), .val (.int mx), .val (.double (9218868437227405312 : UInt64)), .second, .val (.double (18442240474082181120 : UInt64)), .second, .val (.ref b3), .val (.ref b4), .unset, .unset, .unset] [(.int (0 : Int32)), (.int (1 : Int32)), (.ref b3)])) _
    refine XS.iconst X4.here hx rfl (hb hby at_62) ?_
    show Steps p.tables e below (T4.setTop (mkF m 63 #[.val (.int p0), .val (.int p1), .val (.int p2), .val (.int p3), .val (.int p4), .val (.int (1 : Int32)), .val (.int (0 : Int32)), .val (.int (0 : Int32)), .val (.int mn), .val (.int mx), .val (.double (9218868437227405312 : UInt64)), .second, .val (.double (18442240474082181120 : UInt64)), .second, .val (.ref b3), .val (.ref b4), .unset, .unset, .unset] [(.int (3 : Int32)), (.int (0 : Int32)), (.int (1 : Int32)), (.ref b3)])) _
    refine XS.icmpYes X4.here hx rfl (pc0 := 63) (pc' := 71) rfl (hb hby at_63) rfl (feq (by decide : ¬ ((0 : Int32) = (3 : Int32)))).2 (by decide) (by decide) ?_
    show Steps p.tables e below (T4.setTop (mkF m 71 #[.val (.int p0), .val (.int p1), .val (.int p2), .val (.int p3), .val (.int p4), .val (.int (1 : Int32)), .val (.int (0 : Int32)), .val (.int (0 : Int32)), .val (.int mn), .val (.int mx), .val (.double (9218868437227405312 : UInt64)), .second, .val (.double (18442240474082181120 : UInt64)), .second, .val (.ref b3), .val (.ref b4), .unset, .unset, .unset] [(.int (1 : Int32)), (.ref b3)])) _
    refine XS.iload X4.here hx rfl (hb hby at_71) rfl ?_
    show Steps p.tables e below (T4.setTop (mkF m 73 #[.val (.int p0), .val (.int p1), .val (.int p2), .val (.int p3), .val (.int p4), .val (.int (1 : Int32)), .val (.int (0 : Int32)), .val (.int (0 : Int32)), .val (.int mn), .val (.int mx), .val (.double (9218868437227405312 : UInt64)), .second, .val (.double (18442240474082181120 : UInt64)), .second, .val (.ref b3), .val (.ref b4), .unset, .unset, .unset] [(.int mn), (.int (1 : Int32)), (.ref b3)])) _
    refine XS.i2dS X4.here hx rfl (hb hby at_73) rfl (v := (FP.i2d mn)) rfl ?_
    show Steps p.tables e below (T4.setTop (mkF m 74 #[.val (.int p0), .val (.int p1), .val (.int p2), .val (.int p3), .val (.int p4), .val (.int (1 : Int32)), .val (.int (0 : Int32)), .val (.int (0 : Int32)), .val (.int mn), .val (.int mx), .val (.double (9218868437227405312 : UInt64)), .second, .val (.double (18442240474082181120 : UInt64)), .second, .val (.ref b3), .val (.ref b4), .unset, .unset, .unset] [(.double (FP.i2d mn)), (.int (1 : Int32)), (.ref b3)])) _
    refine st7 _ ?_
    show Steps p.tables e below (T7.setTop (mkF m 75 #[.val (.int p0), .val (.int p1), .val (.int p2), .val (.int p3), .val (.int p4), .val (.int (1 : Int32)), .val (.int (0 : Int32)), .val (.int (0 : Int32)), .val (.int mn), .val (.int mx), .val (.double (9218868437227405312 : UInt64)), .second, .val (.double (18442240474082181120 : UInt64)), .second, .val (.ref b3), .val (.ref b4), .unset, .unset, .unset] [])) _
    refine XS.aload X7.here hx rfl (hb hby at_75) rfl rfl ?_
    show Steps p.tables e below (T7.setTop (mkF m 77 #[.val (.int p0), .val (.int p1), .val (.int p2), .val (.int p3), .val (.int p4), .val (.int (1 : Int32)), .val (.int (0 : Int32)), .val (.int (0 : Int32)), .val (.int mn), .val (.int mx), .val (.double (9218868437227405312 : UInt64)), .second, .val (.double (18442240474082181120 : UInt64)), .second, .val (.ref b3), .val (.ref b4), .unset, .unset, .unset] [(.ref b4)])) _
    refine XS.iload X7.here hx rfl (hb hby at_77) rfl ?_
    show Steps p.tables e below (T7.setTop (mkF m 79 #[.val (.int p0), .val (.int p1), .val (.int p2), .val (.int p3), .val (.int p4), .val (.int (1 : Int32)), .val (.int (0 : Int32)), .val (.int (0 : Int32)), .val (.int mn), .val (.int mx), .val (.double (9218868437227405312 : UInt64)), .second, .val (.double (18442240474082181120 : UInt64)), .second, .val (.ref b3), .val (.ref b4), .unset, .unset, .unset] [(.int (1 : Int32)), (.ref b4)])) _
    refine XS.iload X7.here hx rfl (hb hby at_79) rfl ?_
    show Steps p.tables e below (T7.setTop (mkF m 81 #[.val (.int p0), .val (.int p1), .val (.int p2), .val (.int p3), .val (.int p4), .val (.int (1 : Int32)), .val (.int (0 : Int32)), .val (.int (0 : Int32)), .val (.int mn), .val (.int mx), .val (.double (9218868437227405312 : UInt64)), .second, .val (.double (18442240474082181120 : UInt64)), .second, .val (.ref b3), .val (.ref b4), .unset, .unset, .unset] [(.int (0 : Int32)), (.int (1 : Int32)), (.ref b4)])) _
    refine XS.iconst X7.here hx rfl (hb hby at_81) ?_
    show Steps p.tables e below (T7.setTop (mkF m 82 #[.val (.int p0), .val (.int p1), .val (.int p2), .val (.int p3), .val (.int p4), .val (.int (1 : Int32)), .val (.int (0 : Int32)), .val (.int (0 : Int32)), .val (.int mn), .val (.int mx), .val (.double (9218868437227405312 : UInt64)), .second, .val (.double (18442240474082181120 : UInt64)), .second, .val (.ref b3), .val (.ref b4), .unset, .unset, .unset] [(.int (1 : Int32)), (.int (0 : Int32)), (.int (1 : Int32)), (.ref b4)])) _
    refine XS.icmpNo X7.here hx rfl (hb hby at_82) rfl (feq (by decide : ¬ ((0 : Int32) = (1 : Int32)))).1 ?_
    show Steps p.tables e below (T7.setTop (mkF m 85 #[.val (.int p0), .val (.int p1), .val (.int p2), .val (.int p3), .val (.int p4), .val (.int (1 : Int32)), .val (.int (0 : Int32)), .val (.int (0 : Int32)), .val (.int mn), .val (.int mx), .val (.double (9218868437227405312 : UInt64)), .second, .val (.double (18442240474082181120 : UInt64)), .second, .val (.ref b3), .val (.ref b4), .unset, .unset, .unset] [(.int (1 : Int32)), (.ref b4)])) _
    refine XS.iload X7.here hx rfl (hb hby at_85) rfl ?_
    show Steps p.tables e below (T7.setTop (mkF m 87 #[.val (.int p0), .val (.int p1), .val (.int p2), .val (.int p3), .val (.int p4), .val (.int (1 : Int32)), .val (.int (0 : Int32)), .val (.int (0 : Int32)), .val (.int mn), .val (.int mx), .val (.double (9218868437227405312 : UInt64)), .second, .val (.double (18442240474082181120 : UInt64)), .second, .val (.ref b3), .val (.ref b4), .unset, .unset, .unset] [(.int (0 : Int32)), (.int (1 : Int32)), (.ref b4)])) _
    refine XS.iconst X7.here hx rfl (hb hby at_87) ?_
    show Steps p.tables e below (T7.setTop (mkF m 88 #[.val (.int p0), .val (.int p1), .val (.int p2), .val (.int p3), .val (.int p4), .val (.int (1 : Int32)), .val (.int (0 : Int32)), .val (.int (0 : Int32)), .val (.int mn), .val (.int mx), .val (.double (9218868437227405312 : UInt64)), .second, .val (.double (18442240474082181120 : UInt64)), .second, .val (.ref b3), .val (.ref b4), .unset, .unset, .unset] [(.int (2 : Int32)), (.int (0 : Int32)), (.int (1 : Int32)), (.ref b4)])) _
    refine XS.icmpYes X7.here hx rfl (pc0 := 88) (pc' := 96) rfl (hb hby at_88) rfl (feq (by decide : ¬ ((0 : Int32) = (2 : Int32)))).2 (by decide) (by decide) ?_
    show Steps p.tables e below (T7.setTop (mkF m 96 #[.val (.int p0), .val (.int p1), .val (.int p2), .val (.int p3), .val (.int p4), .val (.int (1 : Int32)), .val (.int (0 : Int32)), .val (.int (0 : Int32)), .val (.int mn), .val (.int mx), .val (.double (9218868437227405312 : UInt64)), .second, .val (.double (18442240474082181120 : UInt64)), .second, .val (.ref b3), .val (.ref b4), .unset, .unset, .unset] [(.int (1 : Int32)), (.ref b4)])) _
    refine XS.iload X7.here hx rfl (hb hby at_96) rfl ?_
    show Steps p.tables e below (T7.setTop (mkF m 98 #[.val (.int p0), .val (.int p1), .val (.int p2), .val (.int p3), .val (.int p4), .val (.int (1 : Int32)), .val (.int (0 : Int32)), .val (.int (0 : Int32)), .val (.int mn), .val (.int mx), .val (.double (9218868437227405312 : UInt64)), .second, .val (.double (18442240474082181120 : UInt64)), .second, .val (.ref b3), .val (.ref b4), .unset, .unset, .unset] [(.int mx), (.int (1 : Int32)), (.ref b4)])) _
    refine XS.i2dS X7.here hx rfl (hb hby at_98) rfl (v := (FP.i2d mx)) rfl ?_
    show Steps p.tables e below (T7.setTop (mkF m 99 #[.val (.int p0), .val (.int p1), .val (.int p2), .val (.int p3), .val (.int p4), .val (.int (1 : Int32)), .val (.int (0 : Int32)), .val (.int (0 : Int32)), .val (.int mn), .val (.int mx), .val (.double (9218868437227405312 : UInt64)), .second, .val (.double (18442240474082181120 : UInt64)), .second, .val (.ref b3), .val (.ref b4), .unset, .unset, .unset] [(.double (FP.i2d mx)), (.int (1 : Int32)), (.ref b4)])) _
    refine st11 _ ?_
    show Steps p.tables e below (T11.setTop (mkF m 100 #[.val (.int p0), .val (.int p1), .val (.int p2), .val (.int p3), .val (.int p4), .val (.int (1 : Int32)), .val (.int (0 : Int32)), .val (.int (0 : Int32)), .val (.int mn), .val (.int mx), .val (.double (9218868437227405312 : UInt64)), .second, .val (.double (18442240474082181120 : UInt64)), .second, .val (.ref b3), .val (.ref b4), .unset, .unset, .unset] [])) _
    refine XS.aload X11.here hx rfl (hb hby at_100) rfl rfl ?_
    show Steps p.tables e below (T11.setTop (mkF m 102 #[.val (.int p0), .val (.int p1), .val (.int p2), .val (.int p3), .val (.int p4), .val (.int (1 : Int32)), .val (.int (0 : Int32)), .val (.int (0 : Int32)), .val (.int mn), .val (.int mx), .val (.double (9218868437227405312 : UInt64)), .second, .val (.double (18442240474082181120 : UInt64)), .second, .val (.ref b3), .val (.ref b4), .unset, .unset, .unset] [(.ref b3)])) _
    refine XS.iload X11.here hx rfl (hb hby at_102) rfl ?_
    show Steps p.tables e below (T11.setTop (mkF m 104 #[.val (.int p0), .val (.int p1), .val (.int p2), .val (.int p3), .val (.int p4), .val (.int (1 : Int32)), .val (.int (0 : Int32)), .val (.int (0 : Int32)), .val (.int mn), .val (.int mx), .val (.double (9218868437227405312 : UInt64)), .second, .val (.double (18442240474082181120 : UInt64)), .second, .val (.ref b3), .val (.ref b4), .unset, .unset, .unset] [(.int (0 : Int32)), (.ref b3)])) _
    refine XS.iload X11.here hx rfl (hb hby at_104) rfl ?_
    show Steps p.tables e below (T11.setTop (mkF m 106 #[.val (.int p0), .val (.int p1), .val (.int p2), .val (.int p3), .val (.int p4), .val (.int (1 : Int32)), .val (.int (0 : Int32)), .val (.int (0 : Int32)), .val (.int mn), .val (.int mx), .val (.double (9218868437227405312 : UInt64)), .second, .val (.double (18442240474082181120 : UInt64)), .second, .val (.ref b3), .val (.ref b4), .unset, .unset, .unset] [(.int p4), (.int (0 : Int32)), (.ref b3)])) _
    refine XS.i2dS X11.here hx rfl (hb hby at_106) rfl (v := (FP.i2d p4)) rfl ?_
    show Steps p.tables e below (T11.setTop (mkF m 107 #[.val (.int p0), .val (.int p1), .val (.int p2), .val (.int p3), .val (.int p4), .val (.int (1 : Int32)), .val (.int (0 : Int32)), .val (.int (0 : Int32)), .val (.int mn), .val (.int mx), .val (.double (9218868437227405312 : UInt64)), .second, .val (.double (18442240474082181120 : UInt64)), .second, .val (.ref b3), .val (.ref b4), .unset, .unset, .unset] [(.double (FP.i2d p4)), (.int (0 : Int32)), (.ref b3)])) _
    refine st15 _ ?_
    show Steps p.tables e below (T15.setTop (mkF m 108 #[.val (.int p0), .val (.int p1), .val (.int p2), .val (.int p3), .val (.int p4), .val (.int (1 : Int32)), .val (.int (0 : Int32)), .val (.int (0 : Int32)), .val (.int mn), .val (.int mx), .val (.double (9218868437227405312 : UInt64)), .second, .val (.double (18442240474082181120 : UInt64)), .second, .val (.ref b3), .val (.ref b4), .unset, .unset, .unset] [])) _
    refine XS.aload X15.here hx rfl (hb hby at_108) rfl rfl ?_
    show Steps p.tables e below (T15.setTop (mkF m 110 #[.val (.int p0), .val (.int p1), .val (.int p2), .val (.int p3), .val (.int p4), .val (.int (1 : Int32)), .val (.int (0 : Int32)), .val (.int (0 : Int32)), .val (.int mn), .val (.int mx), .val (.double (9218868437227405312 : UInt64)), .second, .val (.double (18442240474082181120 : UInt64)), .second, .val (.ref b3), .val (.ref b4), .unset, .unset, .unset] [(.ref b4)])) _
    refine XS.iload X15.here hx rfl (hb hby at_110) rfl ?_
    show Steps p.tables e below (T15.setTop (mkF m 112 #[.val (.int p0), .val (.int p1), .val (.int p2), .val (.int p3), .val (.int p4), .val (.int (1 : Int32)), .val (.int (0 : Int32)), .val (.int (0 : Int32)), .val (.int mn), .val (.int mx), .val (.double (9218868437227405312 : UInt64)), .second, .val (.double (18442240474082181120 : UInt64)), .second, .val (.ref b3), .val (.ref b4), .unset, .unset, .unset] [(.int (0 : Int32)), (.ref b4)])) _
    refine XS.iloadN X15.here hx rfl (hb hby at_112) rfl ?_
    show Steps p.tables e below (T15.setTop (mkF m 113 #[.val (.int p0), .val (.int p1), .val (.int p2), .val (.int p3), .val (.int p4), .val (.int (1 : Int32)), .val (.int (0 : Int32)), .val (.int (0 : Int32)), .val (.int mn), .val (.int mx), .val (.double (9218868437227405312 : UInt64)), .second, .val (.double (18442240474082181120 : UInt64)), .second, .val (.ref b3), .val (.ref b4), .unset, .unset, .unset] [(.int p2), (.int (0 : Int32)), (.ref b4)])) _
    refine XS.iconst X15.here hx rfl (hb hby at_113) ?_
    show Steps p.tables e below (T15.setTop (mkF m 114 #[.val (.int p0), .val (.int p1), .val (.int p2), .val (.int p3), .val (.int p4), .val (.int (1 : Int32)), .val (.int (0 : Int32)), .val (.int (0 : Int32)), .val (.int mn), .val (.int mx), .val (.double (9218868437227405312 : UInt64)), .second, .val (.double (18442240474082181120 : UInt64)), .second, .val (.ref b3), .val (.ref b4), .unset, .unset, .unset] [(.int (2 : Int32)), (.int p2), (.int (0 : Int32)), (.ref b4)])) _
    refine XS.ishr X15.here hx rfl (hb hby at_114) rfl ?_
    show Steps p.tables e below (T15.setTop (mkF m 115 #[.val (.int p0), .val (.int p1), .val (.int p2), .val (.int p3), .val (.int p4), .val (.int (1 : Int32)), .val (.int (0 : Int32)), .val (.int (0 : Int32)), .val (.int mn), .val (.int mx), .val (.double (9218868437227405312 : UInt64)), .second, .val (.double (18442240474082181120 : UInt64)), .second, .val (.ref b3), .val (.ref b4), .unset, .unset, .unset] [(.int (p2 >>> ((2 : Int32) &&& 31))), (.int (0 : Int32)), (.ref b4)])) _
    refine XS.iconst X15.here hx rfl (hb hby at_115) ?_
    show Steps p.tables e below (T15.setTop (mkF m 116 #[.val (.int p0), .val (.int p1), .val (.int p2), .val (.int p3), .val (.int p4), .val (.int (1 : Int32)), .val (.int (0 : Int32)), .val (.int (0 : Int32)), .val (.int mn), .val (.int mx), .val (.double (9218868437227405312 : UInt64)), .second, .val (.double (18442240474082181120 : UInt64)), .second, .val (.ref b3), .val (.ref b4), .unset, .unset, .unset] [(.int (1 : Int32)), (.int (p2 >>> ((2 : Int32) &&& 31))), (.int (0 : Int32)), (.ref b4)])) _
    refine XS.iand X15.here hx rfl (hb hby at_116) rfl ?_
    show Steps p.tables e below (T15.setTop (mkF m 117 #[.val (.int p0), .val (.int p1), .val (.int p2), .val (.int p3), .val (.int p4), .val (.int (1 : Int32)), .val (.int (0 : Int32)), .val (.int (0 : Int32)), .val (.int mn), .val (.int mx), .val (.double (9218868437227405312 : UInt64)), .second, .val (.double (18442240474082181120 : UInt64)), .second, .val (.ref b3), .val (.ref b4), .unset, .unset, .unset] [(.int ((p2 >>> ((2 : Int32) &&& 31)) &&& (1 : Int32))), (.int (0 : Int32)), (.ref b4)])) _
    refine jn18 _ ?_
    show Steps p.tables e below (T15.setTop (mkF m 128 #[.val (.int p0), .val (.int p1), .val (.int p2), .val (.int p3), .val (.int p4), .val (.int (1 : Int32)), .val (.int (0 : Int32)), .val (.int (0 : Int32)), .val (.int mn), .val (.int mx), .val (.double (9218868437227405312 : UInt64)), .second, .val (.double (18442240474082181120 : UInt64)), .second, .val (.ref b3), .val (.ref b4), .unset, .unset, .unset] [(.double ub), (.int (0 : Int32)), (.ref b4)])) _
    refine st20 _ ?_
    show Steps p.tables e below (T20.setTop (mkF m 129 #[.val (.int p0), .val (.int p1), .val (.int p2), .val (.int p3), .val (.int p4), .val (.int (1 : Int32)), .val (.int (0 : Int32)), .val (.int (0 : Int32)), .val (.int mn), .val (.int mx), .val (.double (9218868437227405312 : UInt64)), .second, .val (.double (18442240474082181120 : UInt64)), .second, .val (.ref b3), .val (.ref b4), .unset, .unset, .unset] [])) _
    refine st23 _ ?_
    show Steps p.tables e below (T23.setTop (mkF m 132 #[.val (.int p0), .val (.int p1), .val (.int p2), .val (.int p3), .val (.int p4), .val (.int (1 : Int32)), .val (.int (0 : Int32)), .val (.int (0 : Int32)), .val (.int mn), .val (.int mx), .val (.double (9218868437227405312 : UInt64)), .second, .val (.double (18442240474082181120 : UInt64)), .second, .val (.ref b3), .val (.ref b4), .unset, .unset, .unset] [(.ref b23)])) _
    refine XS.dup X23.here hx rfl (hb hby at_132) rfl rfl ?_
    show Steps p.tables e below (T23.setTop (mkF m 133 #[.val (.int p0), .val (.int p1), .val (.int p2), .val (.int p3), .val (.int p4), .val (.int (1 : Int32)), .val (.int (0 : Int32)), .val (.int (0 : Int32)), .val (.int mn), .val (.int mx), .val (.double (9218868437227405312 : UInt64)), .second, .val (.double (18442240474082181120 : UInt64)), .second, .val (.ref b3), .val (.ref b4), .unset, .unset, .unset] [(.ref b23), (.ref b23)])) _
    refine XS.aload X23.here hx rfl (hb hby at_133) rfl rfl ?_
    show Steps p.tables e below (T23.setTop (mkF m 135 #[.val (.int p0), .val (.int p1), .val (.int p2), .val (.int p3), .val (.int p4), .val (.int (1 : Int32)), .val (.int (0 : Int32)), .val (.int (0 : Int32)), .val (.int mn), .val (.int mx), .val (.double (9218868437227405312 : UInt64)), .second, .val (.double (18442240474082181120 : UInt64)), .second, .val (.ref b3), .val (.ref b4), .unset, .unset, .unset] [(.ref b3), (.ref b23), (.ref b23)])) _
    refine XS.aload X23.here hx rfl (hb hby at_135) rfl rfl ?_
    show Steps p.tables e below (T23.setTop (mkF m 137 #[.val (.int p0), .val (.int p1), .val (.int p2), .val (.int p3), .val (.int p4), .val (.int (1 : Int32)), .val (.int (0 : Int32)), .val (.int (0 : Int32)), .val (.int mn), .val (.int mx), .val (.double (9218868437227405312 : UInt64)), .second, .val (.double (18442240474082181120 : UInt64)), .second, .val (.ref b3), .val (.ref b4), .unset, .unset, .unset] [(.ref b4), (.ref b3), (.ref b23), (.ref b23)])) _
    refine XS.iconst X23.here hx rfl (hb hby at_137) ?_
    show Steps p.tables e below (T23.setTop (mkF m 138 #[.val (.int p0), .val (.int p1), .val (.int p2), .val (.int p3), .val (.int p4), .val (.int (1 : Int32)), .val (.int (0 : Int32)), .val (.int (0 : Int32)), .val (.int mn), .val (.int mx), .val (.double (9218868437227405312 : UInt64)), .second, .val (.double (18442240474082181120 : UInt64)), .second, .val (.ref b3), .val (.ref b4), .unset, .unset, .unset] [(.int (2 : Int32)), (.ref b4), (.ref b3), (.ref b23), (.ref b23)])) _
    refine st26 _ ?_
    show Steps p.tables e below (T26.setTop (mkF m 140 #[.val (.int p0), .val (.int p1), .val (.int p2), .val (.int p3), .val (.int p4), .val (.int (1 : Int32)), .val (.int (0 : Int32)), .val (.int (0 : Int32)), .val (.int mn), .val (.int mx), .val (.double (9218868437227405312 : UInt64)), .second, .val (.double (18442240474082181120 : UInt64)), .second, .val (.ref b3), .val (.ref b4), .unset, .unset, .unset] [(.ref b26), (.ref b4), (.ref b3), (.ref b23), (.ref b23)])) _
    refine XS.dup X26.here hx rfl (hb hby at_140) rfl rfl ?_
    show Steps p.tables e below (T26.setTop (mkF m 141 #[.val (.int p0), .val (.int p1), .val (.int p2), .val (.int p3), .val (.int p4), .val (.int (1 : Int32)), .val (.int (0 : Int32)), .val (.int (0 : Int32)), .val (.int mn), .val (.int mx), .val (.double (9218868437227405312 : UInt64)), .second, .val (.double (18442240474082181120 : UInt64)), .second, .val (.ref b3), .val (.ref b4), .unset, .unset, .unset] [(.ref b26), (.ref b26), (.ref b4), (.ref b3), (.ref b23), (.ref b23)])) _
    refine XS.iconst X26.here hx rfl (hb hby at_141) ?_
    show Steps p.tables e below (T26.setTop (mkF m 142 #[.val (.int p0), .val (.int p1), .val (.int p2), .val (.int p3), .val (.int p4), .val (.int (1 : Int32)), .val (.int (0 : Int32)), .val (.int (0 : Int32)), .val (.int mn), .val (.int mx), .val (.double (9218868437227405312 : UInt64)), .second, .val (.double (18442240474082181120 : UInt64)), .second, .val (.ref b3), .val (.ref b4), .unset, .unset, .unset] [(.int (0 : Int32)), (.ref b26), (.ref b26), (.ref b4), (.ref b3), (.ref b23), (.ref b23)])) _
    refine XS.iconst X26.here hx rfl (hb hby at_142) ?_
    show Steps p.tables e below (T26.setTop (mkF m 143 #[.val (.int p0), .val (.int p1), .val (.int p2), .val (.int p3), .val (.int p4), .val (.int (1 : Int32)), .val (.int (0 : Int32)), .val (.int (0 : Int32)), .val (.int mn), .val (.int mx), .val (.double (9218868437227405312 : UInt64)), .second, .val (.double (18442240474082181120 : UInt64)), .second, .val (.ref b3), .val (.ref b4), .unset, .unset, .unset] [(.int (-1 : Int32)), (.int (0 : Int32)), (.ref b26), (.ref b26), (.ref b4), (.ref b3), (.ref b23), (.ref b23)])) _
    refine st34 _ ?_
    show Steps p.tables e below (T34.setTop (mkF m 144 #[.val (.int p0), .val (.int p1), .val (.int p2), .val (.int p3), .val (.int p4), .val (.int (1 : Int32)), .val (.int (0 : Int32)), .val (.int (0 : Int32)), .val (.int mn), .val (.int mx), .val (.double (9218868437227405312 : UInt64)), .second, .val (.double (18442240474082181120 : UInt64)), .second, .val (.ref b3), .val (.ref b4), .unset, .unset, .unset] [(.ref b26), (.ref b4), (.ref b3), (.ref b23), (.ref b23)])) _
    refine XS.dup X34.here hx rfl (hb hby at_144) rfl rfl ?_
    show Steps p.tables e below (T34.setTop (mkF m 145 #[.val (.int p0), .val (.int p1), .val (.int p2), .val (.int p3), .val (.int p4), .val (.int (1 : Int32)), .val (.int (0 : Int32)), .val (.int (0 : Int32)), .val (.int mn), .val (.int mx), .val (.double (9218868437227405312 : UInt64)), .second, .val (.double (18442240474082181120 : UInt64)), .second, .val (.ref b3), .val (.ref b4), .unset, .unset, .unset] [(.ref b26), (.ref b26), (.ref b4), (.ref b3), (.ref b23), (.ref b23)])) _
    refine XS.iconst X34.here hx rfl (hb hby at_145) ?_
    show Steps p.tables e below (T34.setTop (mkF m 146 #[.val (.int p0), .val (.int p1), .val (.int p2), .val (.int p3), .val (.int p4), .val (.int (1 : Int32)), .val (.int (0 : Int32)), .val (.int (0 : Int32)), .val (.int mn), .val (.int mx), .val (.double (9218868437227405312 : UInt64)), .second, .val (.double (18442240474082181120 : UInt64)), .second, .val (.ref b3), .val (.ref b4), .unset, .unset, .unset] [(.int (1 : Int32)), (.ref b26), (.ref b26), (.ref b4), (.ref b3), (.ref b23), (.ref b23)])) _
    refine XS.iconst X34.here hx rfl (hb hby at_146) ?_
    show Steps p.tables e below (T34.setTop (mkF m 147 #[.val (.int p0), .val (.int p1), .val (.int p2), .val (.int p3), .val (.int p4), .val (.int (1 : Int32)), .val (.int (0 : Int32)), .val (.int (0 : Int32)), .val (.int mn), .val (.int mx), .val (.double (9218868437227405312 : UInt64)), .second, .val (.double (18442240474082181120 : UInt64)), .second, .val (.ref b3), .val (.ref b4), .unset, .unset, .unset] [(.int (-1 : Int32)), (.int (1 : Int32)), (.ref b26), (.ref b26), (.ref b4), (.ref b3), (.ref b23), (.ref b23)])) _
    refine st44 _ ?_
    show Steps p.tables e below (T44.setTop (mkF m 148 #[.val (.int p0), .val (.int p1), .val (.int p2), .val (.int p3), .val (.int p4), .val (.int (1 : Int32)), .val (.int (0 : Int32)), .val (.int (0 : Int32)), .val (.int mn), .val (.int mx), .val (.double (9218868437227405312 : UInt64)), .second, .val (.double (18442240474082181120 : UInt64)), .second, .val (.ref b3), .val (.ref b4), .unset, .unset, .unset] [(.ref b26), (.ref b4), (.ref b3), (.ref b23), (.ref b23)])) _
    refine st53.trans ?_
    show Steps p.tables e below (T53.setTop (mkF m 151 #[.val (.int p0), .val (.int p1), .val (.int p2), .val (.int p3), .val (.int p4), .val (.int (1 : Int32)), .val (.int (0 : Int32)), .val (.int (0 : Int32)), .val (.int mn), .val (.int mx), .val (.double (9218868437227405312 : UInt64)), .second, .val (.double (18442240474082181120 : UInt64)), .second, .val (.ref b3), .val (.ref b4), .unset, .unset, .unset] [(.ref b23)])) _
    refine XS.astore X53.here hx rfl (hb hby at_151) rfl rfl (l' := #[.val (.int p0), .val (.int p1), .val (.int p2), .val (.int p3), .val (.int p4), .val (.int (1 : Int32)), .val (.int (0 : Int32)), .val (.int (0 : Int32)), .val (.int mn), .val (.int mx), .val (.double (9218868437227405312 : UInt64)), .second, .val (.double (18442240474082181120 : UInt64)), .second, .val (.ref b3), .val (.ref b4), .val (.ref b23), .unset, .unset]) rfl ?_
    show Steps p.tables e below (T53.setTop (mkF m 153 #[.val (.int p0), .val (.int p1), .val (.int p2), .val (.int p3), .val (.int p4), .val (.int (1 : Int32)), .val (.int (0 : Int32)), .val (.int (0 : Int32)), .val (.int mn), .val (.int mx), .val (.double (9218868437227405312 : UInt64)), .second, .val (.double (18442240474082181120 : UInt64)), .second, .val (.ref b3), .val (.ref b4), .val (.ref b23), .unset, .unset] [])) _
    refine XS.aload X53.here hx rfl (hb hby at_153) rfl rfl ?_
    show Steps p.tables e below (T53.setTop (mkF m 155 #[.val (.int p0), .val (.int p1), .val (.int p2), .val (.int p3), .val (.int p4), .val (.int (1 : Int32)), .val (.int (0 : Int32)), .val (.int (0 : Int32)), .val (.int mn), .val (.int mx), .val (.double (9218868437227405312 : UInt64)), .second, .val (.double (18442240474082181120 : UInt64)), .second, .val (.ref b3), .val (.ref b4), .val (.ref b23), .unset, .unset] [(.ref b23)])) _
    refine XS.iload X53.here hx rfl (hb hby at_155) rfl ?_
    show Steps p.tables e below (T53.setTop (mkF m 157 #[.val (.int p0), .val (.int p1), .val (.int p2), .val (.int p3), .val (.int p4), .val (.int (1 : Int32)), .val (.int (0 : Int32)), .val (.int (0 : Int32)), .val (.int mn), .val (.int mx), .val (.double (9218868437227405312 : UInt64)), .second, .val (.double (18442240474082181120 : UInt64)), .second, .val (.ref b3), .val (.ref b4), .val (.ref b23), .unset, .unset] [(.int (1 : Int32)), (.ref b23)])) _
    refine st62.trans ?_
    show Steps p.tables e below (T62.setTop (mkF m 160 #[.val (.int p0), .val (.int p1), .val (.int p2), .val (.int p3), .val (.int p4), .val (.int (1 : Int32)), .val (.int (0 : Int32)), .val (.int (0 : Int32)), .val (.int mn), .val (.int mx), .val (.double (9218868437227405312 : UInt64)), .second, .val (.double (18442240474082181120 : UInt64)), .second, .val (.ref b3), .val (.ref b4), .val (.ref b23), .unset, .unset] [(.double (FP.ddiv (FP.dadd (FP.i2d mn) (FP.i2d mx)) (4611686018427387904 : UInt64)))])) _
    refine XS.dstore X62.here hx rfl (hb hby at_160) rfl (l' := #[.val (.int p0), .val (.int p1), .val (.int p2), .val (.int p3), .val (.int p4), .val (.int (1 : Int32)), .val (.int (0 : Int32)), .val (.int (0 : Int32)), .val (.int mn), .val (.int mx), .val (.double (9218868437227405312 : UInt64)), .second, .val (.double (18442240474082181120 : UInt64)), .second, .val (.ref b3), .val (.ref b4), .val (.ref b23), .val (.double (FP.ddiv (FP.dadd (FP.i2d mn) (FP.i2d mx)) (4611686018427387904 : UInt64))), .second]) rfl ?_
    show Steps p.tables e below (T62.setTop (mkF m 162 #[.val (.int p0), .val (.int p1), .val (.int p2), .val (.int p3), .val (.int p4), .val (.int (1 : Int32)), .val (.int (0 : Int32)), .val (.int (0 : Int32)), .val (.int mn), .val (.int mx), .val (.double (9218868437227405312 : UInt64)), .second, .val (.double (18442240474082181120 : UInt64)), .second, .val (.ref b3), .val (.ref b4), .val (.ref b23), .val (.double (FP.ddiv (FP.dadd (FP.i2d mn) (FP.i2d mx)) (4611686018427387904 : UInt64))), .second] [])) _
    refine XS.iload X62.here hx rfl (hb hby at_162) rfl ?_
    show Steps p.tables e below (T62.setTop (mkF m 164 #[.val (.int p0), .val (.int p1), .val (.int p2), .val (.int p3), .val (.int p4), .val (.int (1 : Int32)), .val (.int (0 : Int32)), .val (.int (0 : Int32)), .val (.int mn), .val (.int mx), .val (.double (9218868437227405312 : UInt64)), .second, .val (.double (18442240474082181120 : UInt64)), .second, .val (.ref b3), .val (.ref b4), .val (.ref b23), .val (.double (FP.ddiv (FP.dadd (FP.i2d mn) (FP.i2d mx)) (4611686018427387904 : UInt64))), .second] [(.int (0 : Int32))])) _
    refine XS.ifNo X62.here hx rfl (hb hby at_164) rfl ((if0 _ _).trans (teq (by decide : (0 : Int32) = (0 : Int32))).2) ?_
    show Steps p.tables e below (T62.setTop (mkF m 167 #[.val (.int p0), .val (.int p1), .val (.int p2), .val (.int p3), .val (.int p4), .val (.int (1 : Int32)), .val (.int (0 : Int32)), .val (.int (0 : Int32)), .val (.int mn), .val (.int mx), .val (.double (9218868437227405312 : UInt64)), .second, .val (.double (18442240474082181120 : UInt64)), .second, .val (.ref b3), .val (.ref b4), .val (.ref b23), .val (.double (FP.ddiv (FP.dadd (FP.i2d mn) (FP.i2d mx)) (4611686018427387904 : UInt64))), .second] [])) _
    refine XS.dload X62.here hx rfl (hb hby at_167) rfl ?_
    show Steps p.tables e below (T62.setTop (mkF m 169 #[.val (.int p0), .val (.int p1), .val (.int p2), .val (.int p3), .val (.int p4), .val (.int (1 : Int32)), .val (.int (0 : Int32)), .val (.int (0 : Int32)), .val (.int mn), .val (.int mx), .val (.double (9218868437227405312 : UInt64)), .second, .val (.double (18442240474082181120 : UInt64)), .second, .val (.ref b3), .val (.ref b4), .val (.ref b23), .val (.double (FP.ddiv (FP.dadd (FP.i2d mn) (FP.i2d mx)) (4611686018427387904 : UInt64))), .second] [(.double (FP.ddiv (FP.dadd (FP.i2d mn) (FP.i2d mx)) (4611686018427387904 : UInt64)))])) _
    refine X62.ldc2DoubleC hx hown (mvT hZ (hw _ (List.mem_of_getElem? (i := 39) rfl))) (g := (mkF m 169 #[.val (.int p0), .val (.int p1), .val (.int p2), .val (.int p3), .val (.int p4), .val (.int (1 : Int32)), .val (.int (0 : Int32)), .val (.int (0 : Int32)), .val (.int mn), .val (.int mx), .val (.double (9218868437227405312 : UInt64)), .second, .val (.double (18442240474082181120 : UInt64)), .second, .val (.ref b3), .val (.ref b4), .val (.ref b23), .val (.double (FP.ddiv (FP.dadd (FP.i2d mn) (FP.i2d mx)) (4611686018427387904 : UInt64))), .second] [(.double (FP.ddiv (FP.dadd (FP.i2d mn) (FP.i2d mx)) (4611686018427387904 : UInt64)))])) rfl (hb hby at_169) _ ?_
    show Steps p.tables e below (T62.setTop (mkF m 172 #[.val (.int p0), .val (.int p1), .val (.int p2), .val (.int p3), .val (.int p4), .val (.int (1 : Int32)), .val (.int (0 : Int32)), .val (.int (0 : Int32)), .val (.int mn), .val (.int mx), .val (.double (9218868437227405312 : UInt64)), .second, .val (.double (18442240474082181120 : UInt64)), .second, .val (.ref b3), .val (.ref b4), .val (.ref b23), .val (.double (FP.ddiv (FP.dadd (FP.i2d mn) (FP.i2d mx)) (4611686018427387904 : UInt64))), .second] [(.double (4611686018427387904 : UInt64)), (.double (FP.ddiv (FP.dadd (FP.i2d mn) (FP.i2d mx)) (4611686018427387904 : UInt64)))])) _
    refine XS.dmulS X62.here hx rfl (hb hby at_172) rfl nn172 (v := (FP.dmul (FP.ddiv (FP.dadd (FP.i2d mn) (FP.i2d mx)) (4611686018427387904 : UInt64)) (4611686018427387904 : UInt64))) rfl ?_
    show Steps p.tables e below (T62.setTop (mkF m 173 #[.val (.int p0), .val (.int p1), .val (.int p2), .val (.int p3), .val (.int p4), .val (.int (1 : Int32)), .val (.int (0 : Int32)), .val (.int (0 : Int32)), .val (.int mn), .val (.int mx), .val (.double (9218868437227405312 : UInt64)), .second, .val (.double (18442240474082181120 : UInt64)), .second, .val (.ref b3), .val (.ref b4), .val (.ref b23), .val (.double (FP.ddiv (FP.dadd (FP.i2d mn) (FP.i2d mx)) (4611686018427387904 : UInt64))), .second] [(.double (FP.dmul (FP.ddiv (FP.dadd (FP.i2d mn) (FP.i2d mx)) (4611686018427387904 : UInt64)) (4611686018427387904 : UInt64)))])) _
    refine XS.iload X62.here hx rfl (hb hby at_173) rfl ?_
    show Steps p.tables e below (T62.setTop (mkF m 175 #[.val (.int p0), .val (.int p1), .val (.int p2), .val (.int p3), .val (.int p4), .val (.int (1 : Int32)), .val (.int (0 : Int32)), .val (.int (0 : Int32)), .val (.int mn), .val (.int mx), .val (.double (9218868437227405312 : UInt64)), .second, .val (.double (18442240474082181120 : UInt64)), .second, .val (.ref b3), .val (.ref b4), .val (.ref b23), .val (.double (FP.ddiv (FP.dadd (FP.i2d mn) (FP.i2d mx)) (4611686018427387904 : UInt64))), .second] [(.int mn), (.double (FP.dmul (FP.ddiv (FP.dadd (FP.i2d mn) (FP.i2d mx)) (4611686018427387904 : UInt64)) (4611686018427387904 : UInt64)))])) _
    refine XS.i2l X62.here hx rfl (hb hby at_175) rfl ?_
    show Steps p.tables e below (T62.setTop (mkF m 176 #[.val (.int p0), .val (.int p1), .val (.int p2), .val (.int p3), .val (.int p4), .val (.int (1 : Int32)), .val (.int (0 : Int32)), .val (.int (0 : Int32)), .val (.int mn), .val (.int mx), .val (.double (9218868437227405312 : UInt64)), .second, .val (.double (18442240474082181120 : UInt64)), .second, .val (.ref b3), .val (.ref b4), .val (.ref b23), .val (.double (FP.ddiv (FP.dadd (FP.i2d mn) (FP.i2d mx)) (4611686018427387904 : UInt64))), .second] [(.long (mn.toInt64)), (.double (FP.dmul (FP.ddiv (FP.dadd (FP.i2d mn) (FP.i2d mx)) (4611686018427387904 : UInt64)) (4611686018427387904 : UInt64)))])) _
    refine XS.iload X62.here hx rfl (hb hby at_176) rfl ?_
    show Steps p.tables e below (T62.setTop (mkF m 178 #[.val (.int p0), .val (.int p1), .val (.int p2), .val (.int p3), .val (.int p4), .val (.int (1 : Int32)), .val (.int (0 : Int32)), .val (.int (0 : Int32)), .val (.int mn), .val (.int mx), .val (.double (9218868437227405312 : UInt64)), .second, .val (.double (18442240474082181120 : UInt64)), .second, .val (.ref b3), .val (.ref b4), .val (.ref b23), .val (.double (FP.ddiv (FP.dadd (FP.i2d mn) (FP.i2d mx)) (4611686018427387904 : UInt64))), .second] [(.int mx), (.long (mn.toInt64)), (.double (FP.dmul (FP.ddiv (FP.dadd (FP.i2d mn) (FP.i2d mx)) (4611686018427387904 : UInt64)) (4611686018427387904 : UInt64)))])) _
    refine XS.i2l X62.here hx rfl (hb hby at_178) rfl ?_
    show Steps p.tables e below (T62.setTop (mkF m 179 #[.val (.int p0), .val (.int p1), .val (.int p2), .val (.int p3), .val (.int p4), .val (.int (1 : Int32)), .val (.int (0 : Int32)), .val (.int (0 : Int32)), .val (.int mn), .val (.int mx), .val (.double (9218868437227405312 : UInt64)), .second, .val (.double (18442240474082181120 : UInt64)), .second, .val (.ref b3), .val (.ref b4), .val (.ref b23), .val (.double (FP.ddiv (FP.dadd (FP.i2d mn) (FP.i2d mx)) (4611686018427387904 : UInt64))), .second] [(.long (mx.toInt64)), (.long (mn.toInt64)), (.double (FP.dmul (FP.ddiv (FP.dadd (FP.i2d mn) (FP.i2d mx)) (4611686018427387904 : UInt64)) (4611686018427387904 : UInt64)))])) _
    refine XS.ladd X62.here hx rfl (hb hby at_179) rfl ?_
    show Steps p.tables e below (T62.setTop (mkF m 180 #[.val (.int p0), .val (.int p1), .val (.int p2), .val (.int p3), .val (.int p4), .val (.int (1 : Int32)), .val (.int (0 : Int32)), .val (.int (0 : Int32)), .val (.int mn), .val (.int mx), .val (.double (9218868437227405312 : UInt64)), .second, .val (.double (18442240474082181120 : UInt64)), .second, .val (.ref b3), .val (.ref b4), .val (.ref b23), .val (.double (FP.ddiv (FP.dadd (FP.i2d mn) (FP.i2d mx)) (4611686018427387904 : UInt64))), .second] [(.long ((mn.toInt64) + (mx.toInt64))), (.double (FP.dmul (FP.ddiv (FP.dadd (FP.i2d mn) (FP.i2d mx)) (4611686018427387904 : UInt64)) (4611686018427387904 : UInt64)))])) _
    refine XS.l2dS X62.here hx rfl (hb hby at_180) rfl (v := (FP.l2d ((mn.toInt64) + (mx.toInt64)))) rfl ?_
    show Steps p.tables e below (T62.setTop (mkF m 181 #[.val (.int p0), .val (.int p1), .val (.int p2), .val (.int p3), .val (.int p4), .val (.int (1 : Int32)), .val (.int (0 : Int32)), .val (.int (0 : Int32)), .val (.int mn), .val (.int mx), .val (.double (9218868437227405312 : UInt64)), .second, .val (.double (18442240474082181120 : UInt64)), .second, .val (.ref b3), .val (.ref b4), .val (.ref b23), .val (.double (FP.ddiv (FP.dadd (FP.i2d mn) (FP.i2d mx)) (4611686018427387904 : UInt64))), .second] [(.double (FP.l2d ((mn.toInt64) + (mx.toInt64)))), (.double (FP.dmul (FP.ddiv (FP.dadd (FP.i2d mn) (FP.i2d mx)) (4611686018427387904 : UInt64)) (4611686018427387904 : UInt64)))])) _
    refine XS.dcmpS X62.here hx rfl (hb hby at_181) rfl (v := (0 : Int32)) hd181 ?_
    show Steps p.tables e below (T62.setTop (mkF m 182 #[.val (.int p0), .val (.int p1), .val (.int p2), .val (.int p3), .val (.int p4), .val (.int (1 : Int32)), .val (.int (0 : Int32)), .val (.int (0 : Int32)), .val (.int mn), .val (.int mx), .val (.double (9218868437227405312 : UInt64)), .second, .val (.double (18442240474082181120 : UInt64)), .second, .val (.ref b3), .val (.ref b4), .val (.ref b23), .val (.double (FP.ddiv (FP.dadd (FP.i2d mn) (FP.i2d mx)) (4611686018427387904 : UInt64))), .second] [(.int (0 : Int32))])) _
    refine XS.ifNo X62.here hx rfl (hb hby at_182) rfl ((if0 _ _).trans (teq (by decide : (0 : Int32) = (0 : Int32))).2) ?_
    show Steps p.tables e below (T62.setTop (mkF m 185 #[.val (.int p0), .val (.int p1), .val (.int p2), .val (.int p3), .val (.int p4), .val (.int (1 : Int32)), .val (.int (0 : Int32)), .val (.int (0 : Int32)), .val (.int mn), .val (.int mx), .val (.double (9218868437227405312 : UInt64)), .second, .val (.double (18442240474082181120 : UInt64)), .second, .val (.ref b3), .val (.ref b4), .val (.ref b23), .val (.double (FP.ddiv (FP.dadd (FP.i2d mn) (FP.i2d mx)) (4611686018427387904 : UInt64))), .second] [])) _
    refine XS.iconst X62.here hx rfl (hb hby at_185) ?_
    show Steps p.tables e below (T62.setTop (mkF m 186 #[.val (.int p0), .val (.int p1), .val (.int p2), .val (.int p3), .val (.int p4), .val (.int (1 : Int32)), .val (.int (0 : Int32)), .val (.int (0 : Int32)), .val (.int mn), .val (.int mx), .val (.double (9218868437227405312 : UInt64)), .second, .val (.double (18442240474082181120 : UInt64)), .second, .val (.ref b3), .val (.ref b4), .val (.ref b23), .val (.double (FP.ddiv (FP.dadd (FP.i2d mn) (FP.i2d mx)) (4611686018427387904 : UInt64))), .second] [(.int (1 : Int32))])) _
    refine XS.goto X62.here hx rfl (pc0 := 186) (pc' := 190) rfl (hb hby at_186) (by decide) (by decide) ?_
    show Steps p.tables e below (T62.setTop (mkF m 190 #[.val (.int p0), .val (.int p1), .val (.int p2), .val (.int p3), .val (.int p4), .val (.int (1 : Int32)), .val (.int (0 : Int32)), .val (.int (0 : Int32)), .val (.int mn), .val (.int mx), .val (.double (9218868437227405312 : UInt64)), .second, .val (.double (18442240474082181120 : UInt64)), .second, .val (.ref b3), .val (.ref b4), .val (.ref b23), .val (.double (FP.ddiv (FP.dadd (FP.i2d mn) (FP.i2d mx)) (4611686018427387904 : UInt64))), .second] [(.int (1 : Int32))])) _
    exact retN X62 hx (t := .boolean) Bd.returns (by simp) (hb hby at_190) hr
  · show Q0 n0 _ T62.heap _
    rw [e62]
    exact ⟨rfl, N62⟩
set_option maxRecDepth 65536 in
set_option maxHeartbeats 40000000 in
theorem rm0_10 (l : Launch) (Z : State) (a0 : Array Value) (hw : ∀ d ∈ tables_1, d.before a0 Z = true) (ws : List Jvm.Cond) (p0 : Int32) (p1 : Int32) (p2 : Int32) (p3 : Int32) (p4 : Int32) (mn : Int32) (mx : Int32) (ub : UInt64) (h0 : Heap) (n0 : Nat) (Z0 : n0 ≤ h0.size) (hv2 : (p3 &&& (1 : Int32)) = (0 : Int32)) (hv13 : (p2 &&& (3 : Int32)) = (1 : Int32)) (hr_r_18 : (if p1 < p0 then p1 else p0) = mn) (hr_r_25 : (if p0 < p1 then p1 else p0) = mx) (hj_ub : (if ((p2 >>> ((2 : Int32) &&& 31)) &&& (1 : Int32)) = (0 : Int32) then (FP.i2d p4) else (9218868437227405312 : UInt64)) = ub) (hd9_157 : (cmpValue (FP.dcmp (9218868437227405312 : UInt64) (9218868437227405312 : UInt64)) .l) = (0 : Int32)) (hd202 : (cmpValue (FP.dcmp (FP.i2d mn) (FP.i2d mn)) .l) = (0 : Int32)) :
    MetFree l x (head1 (Jvm.Cond.code x code maxLocals ret :: ws) room_1) (fun a U => a = #[(.int p0), (.int p1), (.int p2), (.int p3), (.int p4)] ∧ Z.Warmed39 U.vm ∧ U.heap = h0) (fun _ _ _ _ _ => True) (fun _ U o U' => ∃ v L, o = .returned v ∧ Q0 n0 v U'.heap L ∧ FrameEnd U o U' L room_1.cells room_1.slots) := by
  refine MetFree.of_bodySF (plainFor_of_name pn_com_example_hedge_hedge_ValueBoundsValuePinLaw) hisR ?_
  intro p e s m args below meth c s₁ Bd hml0 hP hK
  obtain ⟨rfl, hZ, hh⟩ := hP
  have hx := Bd.exec
  have hby := Bd.bytes
  have hml : c.maxLocals = 19 := hml0
  have hown : s.vm.findClass "com/example/hedge/hedge/ValueBoundsValuePinLaw" = some m.cls := findClass_of_methodNamed Bd.named
  have hnm := (name_of_methodNamed Bd.named Bd.method).1
  have X0 : Stand p l e room_1 s m #[(.int p0), (.int p1), (.int p2), (.int p3), (.int p4)] below meth c s₁ [] 0 0 := Stand.of_body Bd
  have e0 : s₁.heap = h0 := by rw [← hh, Bd.state]; rfl
  have N0 := Fr.nil n0
  have pre0 : ∀ t, Steps p.tables e below (s₁.setTop (mkF m 0 #[.val (.int p0), .val (.int p1), .val (.int p2), .val (.int p3), .val (.int p4), .unset, .unset, .unset, .unset, .unset, .unset, .unset, .unset, .unset, .unset, .unset, .unset, .unset, .unset] [])) t → Steps p.tables e below (s₁.setTop (entryFrame m #[(.int p0), (.int p1), (.int p2), (.int p3), (.int p4)] maxLocals)) t := fun t k => castTop (ef_0_IIIII m p0 p1 p2 p3 p4) k
  obtain ⟨_, _, ⟨T1, L1, k1, n1⟩, -, X1, ⟨Lc1, hQ1, l1, y1, z1⟩, st1⟩ := Jvm.LawKit.callS X0 hx (y := (⟨"java/lang/Math", "min", "(II)I"⟩ : MethodName)) hown (mvT hZ (hw _ (List.mem_of_getElem? (i := 0) rfl))) (mvT hZ (hw _ (List.mem_of_getElem? (i := 1) rfl))) (mvT hZ (hw _ (List.mem_of_getElem? (i := 2) rfl))) (mvT hZ (hw _ (List.mem_of_getElem? (i := 3) rfl))) (by decide) (backOf (W := 0) (rm1M l Z a0 hw [] p0 p1 mn h0 n0 Z0 hr_r_18) hZ (hw _ (List.mem_of_getElem? (i := 3) rfl)) (hw _ (List.mem_of_getElem? (i := 2) rfl)) (by decide) (by decide)) (g := (mkF m 18 #[.val (.int p0), .val (.int p1), .val (.int p2), .val (.int p3), .val (.int p4), .val (.int (0 : Int32)), .val (.int (1 : Int32)), .val (.int (1 : Int32)), .unset, .unset, .unset, .unset, .unset, .unset, .unset, .unset, .unset, .unset, .unset] [(.int p1), (.int p0)])) rfl (by rw [hml]; rfl) (argsL := [(.int p0), (.int p1)]) (rest := []) (lenOf pd_1 rfl) rfl (by show 2 * 0 + _ ≤ _; exact Nat.le_of_eq rfl) (hb hby at_18) (fun _ _ => ⟨rfl, e0, (by decide : 0 + 0 ≤ _), (by decide : 0 + 0 ≤ _)⟩)
  dsimp only [Pt.U, Pt.locs, Pt.cells, Pt.slots] at X1 l1 y1 z1 st1 hQ1
  subst l1 y1 z1
  obtain ⟨rfl, N1q, eh1⟩ := hQ1
  have N1 := Fr.app N0 N1q
  have e1 : T1.heap = h0 := eh1
  obtain ⟨_, _, ⟨T2, L2, k2, n2⟩, -, X2, ⟨Lc2, hQ2, l2, y2, z2⟩, st2⟩ := Jvm.LawKit.callS X1 hx (y := (⟨"java/lang/Math", "max", "(II)I"⟩ : MethodName)) hown (mvT hZ (hw _ (List.mem_of_getElem? (i := 4) rfl))) (mvT hZ (hw _ (List.mem_of_getElem? (i := 5) rfl))) (mvT hZ (hw _ (List.mem_of_getElem? (i := 2) rfl))) (mvT hZ (hw _ (List.mem_of_getElem? (i := 6) rfl))) (by decide) (backOf (W := 0) (rm2M l Z a0 hw [] p0 p1 mx h0 n0 Z0 hr_r_25) hZ (hw _ (List.mem_of_getElem? (i := 6) rfl)) (hw _ (List.mem_of_getElem? (i := 2) rfl)) (by decide) (by decide)) (g := (mkF m 25 #[.val (.int p0), .val (.int p1), .val (.int p2), .val (.int p3), .val (.int p4), .val (.int (0 : Int32)), .val (.int (1 : Int32)), .val (.int (1 : Int32)), .val (.int mn), .unset, .unset, .unset, .unset, .unset, .unset, .unset, .unset, .unset, .unset] [(.int p1), (.int p0)])) rfl (by rw [hml]; rfl) (argsL := [(.int p0), (.int p1)]) (rest := []) (lenOf pd_1 rfl) rfl (by show 2 * 0 + _ ≤ _; exact Nat.le_of_eq rfl) (hb hby at_25) (fun _ _ => ⟨rfl, e1, (by decide : 0 + 0 ≤ _), (by decide : 0 + 0 ≤ _)⟩)
  dsimp only [Pt.U, Pt.locs, Pt.cells, Pt.slots] at X2 l2 y2 z2 st2 hQ2
  subst l2 y2 z2
  obtain ⟨rfl, N2q, eh2⟩ := hQ2
  have N2 := Fr.app N1 N2q
  have e2 : T2.heap = h0 := eh2
  obtain ⟨T3, h3, k3, X3, e3, E3, A3, st3⟩ := newP X2 hx hZ (hw _ (List.mem_of_getElem? (i := 9) rfl)) e2 (g := (mkF m 41 #[.val (.int p0), .val (.int p1), .val (.int p2), .val (.int p3), .val (.int p4), .val (.int (0 : Int32)), .val (.int (1 : Int32)), .val (.int (1 : Int32)), .val (.int mn), .val (.int mx), .val (.double (9218868437227405312 : UInt64)), .second, .val (.double (18442240474082181120 : UInt64)), .second, .unset, .unset, .unset, .unset, .unset] [(.int (2 : Int32))])) rfl (hb hby at_41) rfl (by decide) (cap := 2) (by decide) (by decide) (by decide) (by decide)
  obtain ⟨b3, g3⟩ : ∃ z, z = h0.size := ⟨_, rfl⟩
  rw [← g3] at A3 st3
  have g_b3 : n0 ≤ b3 := Nat.le_trans Z0 (Nat.le_of_eq g3.symm)
  have sz_b3 : h0.size ≤ b3 := Nat.le_trans (Keep.refl h0 []).1 (Nat.le_of_eq g3.symm)
  have K3 : Keep h0 h3 [] := (Keep.refl h0 []).ext E3
  have Zs3 := Nat.le_trans Z0 E3.1
  have V3 : Arv Z h3 b3 k3 .double (2 : Int32) [(.double (0 : UInt64)), (.double (0 : UInt64))] (.double (0 : UInt64)) := (Arv.new A3 (by decide)).pad (pad_rep [] (.double (0 : UInt64)) 2)
  obtain ⟨T4, h4, k4, X4, e4, E4, A4, st4⟩ := newP X3 hx hZ (hw _ (List.mem_of_getElem? (i := 9) rfl)) e3 (g := (mkF m 46 #[.val (.int p0), .val (.int p1), .val (.int p2), .val (.int p3), .val (.int p4), .val (.int (0 : Int32)), .val (.int (1 : Int32)), .val (.int (1 : Int32)), .val (.int mn), .val (.int mx), .val (.double (9218868437227405312 : UInt64)), .second, .val (.double (18442240474082181120 : UInt64)), .second, .val (.ref b3), .unset, .unset, .unset, .unset] [(.int (2 : Int32))])) rfl (hb hby at_46) rfl (by decide) (cap := 2) (by decide) (by decide) (by decide) (by decide)
  obtain ⟨b4, g4⟩ : ∃ z, z = h3.size := ⟨_, rfl⟩
  rw [← g4] at A4 st4
  have ne_b3_b4 : b3 ≠ b4 := Nat.ne_of_lt (Nat.lt_of_lt_of_le V3.lt (Nat.le_of_eq g4.symm))
  have g_b4 : n0 ≤ b4 := Nat.le_trans Zs3 (Nat.le_of_eq g4.symm)
  have sz_b4 : h0.size ≤ b4 := Nat.le_trans K3.1 (Nat.le_of_eq g4.symm)
  have f5 := V3.ext E4
  have K4 : Keep h0 h4 [] := K3.ext E4
  have Zs4 := Nat.le_trans Zs3 E4.1
  have V4 : Arv Z h4 b4 k4 .double (2 : Int32) [(.double (0 : UInt64)), (.double (0 : UInt64))] (.double (0 : UInt64)) := (Arv.new A4 (by decide)).pad (pad_rep [] (.double (0 : UInt64)) 2)
  obtain ⟨cq6, Arq6, qq6, Sq6, Nq6, Hq6, Gq6⟩ := id f5
  obtain ⟨T7, h7, X7, e7, W7, st7⟩ := stD X4 hx hZ e4 Arq6 (j := (0 : Int32)) (inb_of Sq6 ⟨by decide, by decide⟩) (g := (mkF m 74 #[.val (.int p0), .val (.int p1), .val (.int p2), .val (.int p3), .val (.int p4), .val (.int (0 : Int32)), .val (.int (1 : Int32)), .val (.int (1 : Int32)), .val (.int mn), .val (.int mx), .val (.double (9218868437227405312 : UInt64)), .second, .val (.double (18442240474082181120 : UInt64)), .second, .val (.ref b3), .val (.ref b4), .unset, .unset, .unset] [(.double (FP.i2d mn)), (.int (0 : Int32)), (.ref b3)])) rfl rfl (hb hby at_74)
  have f8 := V4.other W7 (Ne.symm ne_b3_b4)
  have K7 : Keep h0 h7 [] := K4.wr W7 (Or.inr sz_b3)
  have Zs7 := Nat.le_trans Zs4 (Keep.of_wr W7).1
  have N7 := Fr.snoc X7 N2 g_b3
  have f9 : Arv Z h7 b3 k3 .double (2 : Int32) [(.double (FP.i2d mn)), (.double (0 : UInt64))] (.double (0 : UInt64)) := Arv.set Arq6 qq6 Sq6 Nq6 Hq6 Gq6 rfl W7 0 rfl (Nat.le_of_ble_eq_true rfl)
  obtain ⟨cq10, Arq10, qq10, Sq10, Nq10, Hq10, Gq10⟩ := id f8
  obtain ⟨T11, h11, X11, e11, W11, st11⟩ := stD X7 hx hZ e7 Arq10 (j := (0 : Int32)) (inb_of Sq10 ⟨by decide, by decide⟩) (g := (mkF m 99 #[.val (.int p0), .val (.int p1), .val (.int p2), .val (.int p3), .val (.int p4), .val (.int (0 : Int32)), .val (.int (1 : Int32)), .val (.int (1 : Int32)), .val (.int mn), .val (.int mx), .val (.double (9218868437227405312 : UInt64)), .second, .val (.double (18442240474082181120 : UInt64)), .second, .val (.ref b3), .val (.ref b4), .unset, .unset, .unset] [(.double (9218868437227405312 : UInt64)), (.int (0 : Int32)), (.ref b4)])) rfl rfl (hb hby at_99)
  have f12 := f9.other W11 ne_b3_b4
  have K11 : Keep h0 h11 [] := K7.wr W11 (Or.inr sz_b4)
  have Zs11 := Nat.le_trans Zs7 (Keep.of_wr W11).1
  have N11 := Fr.snoc X11 N7 g_b4
  have f13 : Arv Z h11 b4 k4 .double (2 : Int32) [(.double (9218868437227405312 : UInt64)), (.double (0 : UInt64))] (.double (0 : UInt64)) := Arv.set Arq10 qq10 Sq10 Nq10 Hq10 Gq10 rfl W11 0 rfl (Nat.le_of_ble_eq_true rfl)
  obtain ⟨cq14, Arq14, qq14, Sq14, Nq14, Hq14, Gq14⟩ := id f12
  obtain ⟨T15, h15, X15, e15, W15, st15⟩ := stD X11 hx hZ e11 Arq14 (j := (1 : Int32)) (inb_of Sq14 ⟨by decide, by decide⟩) (g := (mkF m 107 #[.val (.int p0), .val (.int p1), .val (.int p2), .val (.int p3), .val (.int p4), .val (.int (0 : Int32)), .val (.int (1 : Int32)), .val (.int (1 : Int32)), .val (.int mn), .val (.int mx), .val (.double (9218868437227405312 : UInt64)), .second, .val (.double (18442240474082181120 : UInt64)), .second, .val (.ref b3), .val (.ref b4), .unset, .unset, .unset] [(.double (FP.i2d p4)), (.int (1 : Int32)), (.ref b3)])) rfl rfl (hb hby at_107)
  have f16 := f13.other W15 (Ne.symm ne_b3_b4)
  have K15 : Keep h0 h15 [] := K11.wr W15 (Or.inr sz_b3)
  have Zs15 := Nat.le_trans Zs11 (Keep.of_wr W15).1
  have N15 := Fr.snoc X15 N11 g_b3
  have f17 : Arv Z h15 b3 k3 .double (2 : Int32) [(.double (FP.i2d mn)), (.double (FP.i2d p4))] (.double (0 : UInt64)) := Arv.set Arq14 qq14 Sq14 Nq14 Hq14 Gq14 rfl W15 1 rfl (Nat.le_of_ble_eq_true rfl)
  have jn18 : ∀ target, Steps p.tables e below (T15.setTop (mkF m 128 #[.val (.int p0), .val (.int p1), .val (.int p2), .val (.int p3), .val (.int p4), .val (.int (0 : Int32)), .val (.int (1 : Int32)), .val (.int (1 : Int32)), .val (.int mn), .val (.int mx), .val (.double (9218868437227405312 : UInt64)), .second, .val (.double (18442240474082181120 : UInt64)), .second, .val (.ref b3), .val (.ref b4), .unset, .unset, .unset] [(.double ub), (.int (1 : Int32)), (.ref b4)])) target → Steps p.tables e below (T15.setTop (mkF m 117 #[.val (.int p0), .val (.int p1), .val (.int p2), .val (.int p3), .val (.int p4), .val (.int (0 : Int32)), .val (.int (1 : Int32)), .val (.int (1 : Int32)), .val (.int mn), .val (.int mx), .val (.double (9218868437227405312 : UInt64)), .second, .val (.double (18442240474082181120 : UInt64)), .second, .val (.ref b3), .val (.ref b4), .unset, .unset, .unset] [(.int ((p2 >>> ((2 : Int32) &&& 31)) &&& (1 : Int32))), (.int (1 : Int32)), (.ref b4)])) target := by
    intro target kt
    by_cases hq : ((p2 >>> ((2 : Int32) &&& 31)) &&& (1 : Int32)) = (0 : Int32)
    · rw [if_pos hq] at hj_ub; subst hj_ub
      show Steps p.tables e below (T15.setTop (mkF m 117 #[.val (.int p0), .val (.int p1), .val (.int p2), .val (.int p3), .val (.int p4), .val (.int (0 : Int32)), .val (.int (1 : Int32)), .val (.int (1 : Int32)), .val (.int mn), .val (.int mx), .val (.double (9218868437227405312 : UInt64)), .second, .val (.double (18442240474082181120 : UInt64)), .second, .val (.ref b3), .val (.ref b4), .unset, .unset, .unset] [(.int ((p2 >>> ((2 : Int32) &&& 31)) &&& (1 : Int32))), (.int (1 : Int32)), (.ref b4)])) _
      refine XS.ifYes X15.here hx rfl (pc0 := 117) (pc' := 125) rfl (hb hby at_117) rfl ((if0 _ _).trans (teq hq).1) (by decide) (by decide) ?_
      show Steps p.tables e below (T15.setTop (mkF m 125 #[.val (.int p0), .val (.int p1), .val (.int p2), .val (.int p3), .val (.int p4), .val (.int (0 : Int32)), .val (.int (1 : Int32)), .val (.int (1 : Int32)), .val (.int mn), .val (.int mx), .val (.double (9218868437227405312 : UInt64)), .second, .val (.double (18442240474082181120 : UInt64)), .second, .val (.ref b3), .val (.ref b4), .unset, .unset, .unset] [(.int (1 : Int32)), (.ref b4)])) _
      refine XS.iload X15.here hx rfl (hb hby at_125) rfl ?_
      show Steps p.tables e below (T15.setTop (mkF m 127 #[.val (.int p0), .val (.int p1), .val (.int p2), .val (.int p3), .val (.int p4), .val (.int (0 : Int32)), .val (.int (1 : Int32)), .val (.int (1 : Int32)), .val (.int mn), .val (.int mx), .val (.double (9218868437227405312 : UInt64)), .second, .val (.double (18442240474082181120 : UInt64)), .second, .val (.ref b3), .val (.ref b4), .unset, .unset, .unset] [(.int p4), (.int (1 : Int32)), (.ref b4)])) _
      refine XS.i2dS X15.here hx rfl (hb hby at_127) rfl (v := (FP.i2d p4)) rfl ?_
      show Steps p.tables e below (T15.setTop (mkF m 128 #[.val (.int p0), .val (.int p1), .val (.int p2), .val (.int p3), .val (.int p4), .val (.int (0 : Int32)), .val (.int (1 : Int32)), .val (.int (1 : Int32)), .val (.int mn), .val (.int mx), .val (.double (9218868437227405312 : UInt64)), .second, .val (.double (18442240474082181120 : UInt64)), .second, .val (.ref b3), .val (.ref b4), .unset, .unset, .unset] [(.double (FP.i2d p4)), (.int (1 : Int32)), (.ref b4)])) _
      exact kt
    · rw [if_neg hq] at hj_ub; subst hj_ub
      show Steps p.tables e below (T15.setTop (mkF m 117 #[.val (.int p0), .val (.int p1), .val (.int p2), .val (.int p3), .val (.int p4), .val (.int (0 : Int32)), .val (.int (1 : Int32)), .val (.int (1 : Int32)), .val (.int mn), .val (.int mx), .val (.double (9218868437227405312 : UInt64)), .second, .val (.double (18442240474082181120 : UInt64)), .second, .val (.ref b3), .val (.ref b4), .unset, .unset, .unset] [(.int ((p2 >>> ((2 : Int32) &&& 31)) &&& (1 : Int32))), (.int (1 : Int32)), (.ref b4)])) _
      refine XS.ifNo X15.here hx rfl (hb hby at_117) rfl ((if0 _ _).trans (feq hq).1) ?_
      show Steps p.tables e below (T15.setTop (mkF m 120 #[.val (.int p0), .val (.int p1), .val (.int p2), .val (.int p3), .val (.int p4), .val (.int (0 : Int32)), .val (.int (1 : Int32)), .val (.int (1 : Int32)), .val (.int mn), .val (.int mx), .val (.double (9218868437227405312 : UInt64)), .second, .val (.double (18442240474082181120 : UInt64)), .second, .val (.ref b3), .val (.ref b4), .unset, .unset, .unset] [(.int (1 : Int32)), (.ref b4)])) _
      refine XS.dload X15.here hx rfl (hb hby at_120) rfl ?_
      show Steps p.tables e below (T15.setTop (mkF m 122 #[.val (.int p0), .val (.int p1), .val (.int p2), .val (.int p3), .val (.int p4), .val (.int (0 : Int32)), .val (.int (1 : Int32)), .val (.int (1 : Int32)), .val (.int mn), .val (.int mx), .val (.double (9218868437227405312 : UInt64)), .second, .val (.double (18442240474082181120 : UInt64)), .second, .val (.ref b3), .val (.ref b4), .unset, .unset, .unset] [(.double (9218868437227405312 : UInt64)), (.int (1 : Int32)), (.ref b4)])) _
      refine XS.goto X15.here hx rfl (pc0 := 122) (pc' := 128) rfl (hb hby at_122) (by decide) (by decide) ?_
      show Steps p.tables e below (T15.setTop (mkF m 128 #[.val (.int p0), .val (.int p1), .val (.int p2), .val (.int p3), .val (.int p4), .val (.int (0 : Int32)), .val (.int (1 : Int32)), .val (.int (1 : Int32)), .val (.int mn), .val (.int mx), .val (.double (9218868437227405312 : UInt64)), .second, .val (.double (18442240474082181120 : UInt64)), .second, .val (.ref b3), .val (.ref b4), .unset, .unset, .unset] [(.double (9218868437227405312 : UInt64)), (.int (1 : Int32)), (.ref b4)])) _
      exact kt
  obtain ⟨cq19, Arq19, qq19, Sq19, Nq19, Hq19, Gq19⟩ := id f16
  obtain ⟨T20, h20, X20, e20, W20, st20⟩ := stD X15 hx hZ e15 Arq19 (j := (1 : Int32)) (inb_of Sq19 ⟨by decide, by decide⟩) (g := (mkF m 128 #[.val (.int p0), .val (.int p1), .val (.int p2), .val (.int p3), .val (.int p4), .val (.int (0 : Int32)), .val (.int (1 : Int32)), .val (.int (1 : Int32)), .val (.int mn), .val (.int mx), .val (.double (9218868437227405312 : UInt64)), .second, .val (.double (18442240474082181120 : UInt64)), .second, .val (.ref b3), .val (.ref b4), .unset, .unset, .unset] [(.double ub), (.int (1 : Int32)), (.ref b4)])) rfl rfl (hb hby at_128)
  have f21 := f17.other W20 ne_b3_b4
  have K20 : Keep h0 h20 [] := K15.wr W20 (Or.inr sz_b4)
  have Zs20 := Nat.le_trans Zs15 (Keep.of_wr W20).1
  have N20 := Fr.snoc X20 N15 g_b4
  have f22 : Arv Z h20 b4 k4 .double (2 : Int32) [(.double (9218868437227405312 : UInt64)), (.double ub)] (.double (0 : UInt64)) := Arv.set Arq19 qq19 Sq19 Nq19 Hq19 Gq19 rfl W20 1 rfl (Nat.le_of_ble_eq_true rfl)
  obtain ⟨T23, h23, X23, e23, E23, A23, D23, -, st23⟩ := newO X20 hx hZ hown (hw _ (List.mem_of_getElem? (i := 10) rfl)) (hw _ (List.mem_of_getElem? (i := 11) rfl)) (hw _ (List.mem_of_getElem? (i := 12) rfl)) e20 (g := (mkF m 129 #[.val (.int p0), .val (.int p1), .val (.int p2), .val (.int p3), .val (.int p4), .val (.int (0 : Int32)), .val (.int (1 : Int32)), .val (.int (1 : Int32)), .val (.int mn), .val (.int mx), .val (.double (9218868437227405312 : UInt64)), .second, .val (.double (18442240474082181120 : UInt64)), .second, .val (.ref b3), .val (.ref b4), .unset, .unset, .unset] [])) rfl (hb hby at_129) (by decide) (by decide)
  obtain ⟨b23, g23⟩ : ∃ z, z = h20.size := ⟨_, rfl⟩
  rw [← g23] at A23 D23 st23
  have ne_b3_b23 : b3 ≠ b23 := Nat.ne_of_lt (Nat.lt_of_lt_of_le f21.lt (Nat.le_of_eq g23.symm))
  have ne_b4_b23 : b4 ≠ b23 := Nat.ne_of_lt (Nat.lt_of_lt_of_le f22.lt (Nat.le_of_eq g23.symm))
  have g_b23 : n0 ≤ b23 := Nat.le_trans Zs20 (Nat.le_of_eq g23.symm)
  have sz_b23 : h0.size ≤ b23 := Nat.le_trans K20.1 (Nat.le_of_eq g23.symm)
  have f24 := f21.ext E23
  have f25 := f22.ext E23
  have K23 : Keep h0 h23 [] := K20.ext E23
  have Zs23 := Nat.le_trans Zs20 E23.1
  have F23_lower : Fld Z h23 b23 "com/example/hedge/hedge/ValueBounds" "lower" "[D" .null := D23 (Or.inr (hw _ (List.mem_of_getElem? (i := 27) rfl))) (ty := (.array .double)) (by decide)
  have F23_upper : Fld Z h23 b23 "com/example/hedge/hedge/ValueBounds" "upper" "[D" .null := D23 (Or.inr (hw _ (List.mem_of_getElem? (i := 29) rfl))) (ty := (.array .double)) (by decide)
  have F23_strategy : Fld Z h23 b23 "com/example/hedge/hedge/ValueBounds" "strategy" "[[I" .null := D23 (Or.inr (hw _ (List.mem_of_getElem? (i := 31) rfl))) (ty := (.array (.array .int))) (by decide)
  obtain ⟨T26, h26, k26, X26, e26, E26, A26, B26, st26⟩ := newPE X23 hx hZ (hw _ (List.mem_of_getElem? (i := 13) rfl)) e23 (g := (mkF m 138 #[.val (.int p0), .val (.int p1), .val (.int p2), .val (.int p3), .val (.int p4), .val (.int (0 : Int32)), .val (.int (1 : Int32)), .val (.int (1 : Int32)), .val (.int mn), .val (.int mx), .val (.double (9218868437227405312 : UInt64)), .second, .val (.double (18442240474082181120 : UInt64)), .second, .val (.ref b3), .val (.ref b4), .unset, .unset, .unset] [(.int (2 : Int32)), (.ref b4), (.ref b3), (.ref b23), (.ref b23)])) rfl (hb hby at_138) rfl (by decide) (cap := 2) (by decide) (by decide) (by decide) (by decide) (ad := "[I") rfl
  obtain ⟨b26, g26⟩ : ∃ z, z = h23.size := ⟨_, rfl⟩
  rw [← g26] at A26 st26 B26
  have ne_b3_b26 : b3 ≠ b26 := Nat.ne_of_lt (Nat.lt_of_lt_of_le f24.lt (Nat.le_of_eq g26.symm))
  have ne_b4_b26 : b4 ≠ b26 := Nat.ne_of_lt (Nat.lt_of_lt_of_le f25.lt (Nat.le_of_eq g26.symm))
  have ne_b23_b26 : b23 ≠ b26 := Nat.ne_of_lt (Nat.lt_of_lt_of_le A23.lt (Nat.le_of_eq g26.symm))
  have g_b26 : n0 ≤ b26 := Nat.le_trans Zs23 (Nat.le_of_eq g26.symm)
  have sz_b26 : h0.size ≤ b26 := Nat.le_trans K23.1 (Nat.le_of_eq g26.symm)
  have f27 := f24.ext E26
  have f28 := f25.ext E26
  have f29 := A23.ext E26
  have f30 := F23_lower.ext E26
  have f31 := F23_upper.ext E26
  have f32 := F23_strategy.ext E26
  have K26 : Keep h0 h26 [] := K23.ext E26
  have Zs26 := Nat.le_trans Zs23 E26.1
  have V26 : Arv Z h26 b26 k26 .int (2 : Int32) [(.int (0 : Int32)), (.int (0 : Int32))] (.int (0 : Int32)) := (Arv.new A26 (by decide)).pad (pad_rep [] (.int (0 : Int32)) 2)
  obtain ⟨cq33, Arq33, qq33, Sq33, Nq33, Hq33, Gq33⟩ := id V26
  obtain ⟨T34, h34, X34, e34, W34, st34⟩ := stI X26 hx hZ e26 Arq33 (j := (0 : Int32)) (inb_of Sq33 ⟨by decide, by decide⟩) (g := (mkF m 143 #[.val (.int p0), .val (.int p1), .val (.int p2), .val (.int p3), .val (.int p4), .val (.int (0 : Int32)), .val (.int (1 : Int32)), .val (.int (1 : Int32)), .val (.int mn), .val (.int mx), .val (.double (9218868437227405312 : UInt64)), .second, .val (.double (18442240474082181120 : UInt64)), .second, .val (.ref b3), .val (.ref b4), .unset, .unset, .unset] [(.int (-1 : Int32)), (.int (0 : Int32)), (.ref b26), (.ref b26), (.ref b4), (.ref b3), (.ref b23), (.ref b23)])) rfl rfl (hb hby at_143)
  have f35 := f27.other W34 ne_b3_b26
  have f36 := f28.other W34 ne_b4_b26
  have f37 := f29.wr W34
  have f38 := f30.other W34 (Or.inl ne_b23_b26)
  have f39 := f31.other W34 (Or.inl ne_b23_b26)
  have f40 := f32.other W34 (Or.inl ne_b23_b26)
  have f41 := B26.wr W34
  have K34 : Keep h0 h34 [] := K26.wr W34 (Or.inr sz_b26)
  have Zs34 := Nat.le_trans Zs26 (Keep.of_wr W34).1
  have N34 := Fr.snoc X34 N20 g_b26
  have f42 : Arv Z h34 b26 k26 .int (2 : Int32) [(.int (-1 : Int32)), (.int (0 : Int32))] (.int (0 : Int32)) := Arv.set Arq33 qq33 Sq33 Nq33 Hq33 Gq33 rfl W34 0 rfl (Nat.le_of_ble_eq_true rfl)
  obtain ⟨cq43, Arq43, qq43, Sq43, Nq43, Hq43, Gq43⟩ := id f42
  obtain ⟨T44, h44, X44, e44, W44, st44⟩ := stI X34 hx hZ e34 Arq43 (j := (1 : Int32)) (inb_of Sq43 ⟨by decide, by decide⟩) (g := (mkF m 147 #[.val (.int p0), .val (.int p1), .val (.int p2), .val (.int p3), .val (.int p4), .val (.int (0 : Int32)), .val (.int (1 : Int32)), .val (.int (1 : Int32)), .val (.int mn), .val (.int mx), .val (.double (9218868437227405312 : UInt64)), .second, .val (.double (18442240474082181120 : UInt64)), .second, .val (.ref b3), .val (.ref b4), .unset, .unset, .unset] [(.int (-1 : Int32)), (.int (1 : Int32)), (.ref b26), (.ref b26), (.ref b4), (.ref b3), (.ref b23), (.ref b23)])) rfl rfl (hb hby at_147)
  have f45 := f35.other W44 ne_b3_b26
  have f46 := f36.other W44 ne_b4_b26
  have f47 := f37.wr W44
  have f48 := f38.other W44 (Or.inl ne_b23_b26)
  have f49 := f39.other W44 (Or.inl ne_b23_b26)
  have f50 := f40.other W44 (Or.inl ne_b23_b26)
  have f51 := f41.wr W44
  have K44 : Keep h0 h44 [] := K34.wr W44 (Or.inr sz_b26)
  have Zs44 := Nat.le_trans Zs34 (Keep.of_wr W44).1
  have N44 := Fr.snoc X44 N34 g_b26
  have f52 : Arv Z h44 b26 k26 .int (2 : Int32) [(.int (-1 : Int32)), (.int (-1 : Int32))] (.int (0 : Int32)) := Arv.set Arq43 qq43 Sq43 Nq43 Hq43 Gq43 rfl W44 1 rfl (Nat.le_of_ble_eq_true rfl)
  obtain ⟨_, _, ⟨T53, L53, k53, n53⟩, -, X53, ⟨Lc53, hQ53, l53, y53, z53⟩, st53⟩ := X44.specialBack hx (y := (⟨"com/example/hedge/hedge/ValueBounds", "<init>", "([D[D[I)V"⟩ : MethodName)) rfl hown (mvT hZ (hw _ (List.mem_of_getElem? (i := 14) rfl))) (mvT hZ (hw _ (List.mem_of_getElem? (i := 15) rfl))) (mvT hZ (hw _ (List.mem_of_getElem? (i := 16) rfl))) (by decide) (backOf (W := 1) (rm3 l Z a0 hw [] b23 b3 b4 b26 h44 n0 Zs44 f47 g_b23 f48 f49 f50 f51) hZ (hw _ (List.mem_of_getElem? (i := 16) rfl)) (hw _ (List.mem_of_getElem? (i := 12) rfl)) (by decide) (by decide)) (g := (mkF m 148 #[.val (.int p0), .val (.int p1), .val (.int p2), .val (.int p3), .val (.int p4), .val (.int (0 : Int32)), .val (.int (1 : Int32)), .val (.int (1 : Int32)), .val (.int mn), .val (.int mx), .val (.double (9218868437227405312 : UInt64)), .second, .val (.double (18442240474082181120 : UInt64)), .second, .val (.ref b3), .val (.ref b4), .unset, .unset, .unset] [(.ref b26), (.ref b4), (.ref b3), (.ref b23), (.ref b23)])) rfl (by rw [hml]; rfl) (Steps.refl _) (a := b23) (argsL := [(.ref b3), (.ref b4), (.ref b26)]) (rest := [(.ref b23)]) (lenOf pd_2 rfl) rfl (by show 2 * 0 + _ ≤ _; exact Nat.le_of_eq rfl) (hb hby at_148) (fun _ _ => ⟨rfl, e44, (by decide : 4 + 1 ≤ _), (by decide : 9 + 1 ≤ _)⟩)
  dsimp only [Pt.U, Pt.locs, Pt.cells, Pt.slots] at X53 l53 y53 z53 st53 hQ53
  subst l53 y53 z53
  obtain ⟨rfl, N53q, K53q, f54, f55, f56⟩ := hQ53
  have N53 := Fr.app N44 N53q
  have f57 := f45.keep K53q (own_niS ne_b3_b23 own_ni0)
  have f58 := f46.keep K53q (own_niS ne_b4_b23 own_ni0)
  have f59 := f47.keep K53q
  have f60 := f52.keep K53q (own_niS (Ne.symm ne_b23_b26) own_ni0)
  have f61 := f51.keep K53q
  have K53 : Keep h0 T53.heap [] := K44.trans K53q (own_allS (Or.inr sz_b23) own_all0)
  have Zs53 := Nat.le_trans Zs44 K53q.1
  obtain ⟨cq62, kq62, q62a, q62b, q62c⟩ := isOf hZ rfl f54
  obtain ⟨_, _, ⟨T62, L62, k62, n62⟩, -, X62, ⟨Lc62, hQ62, l62, y62, z62⟩, st62⟩ := X53.virtualBack hx (y := (⟨"com/example/hedge/hedge/ValueBounds", "value", "(I)D"⟩ : MethodName)) (z := (⟨"com/example/hedge/hedge/ValueBounds", "value", "(I)D"⟩ : MethodName)) hown (mvT hZ (hw _ (List.mem_of_getElem? (i := 32) rfl))) (mvT hZ (hw _ (List.mem_of_getElem? (i := 33) rfl))) (notFace_of_selects (args := #[]) (mvT hZ (hw _ (List.mem_of_getElem? (i := 35) rfl)))) (mvT hZ (hw _ (List.mem_of_getElem? (i := 35) rfl))) (mvT hZ (hw _ (List.mem_of_getElem? (i := 34) rfl))) (by decide) (backOf (W := 0) (rm6_0i l Z a0 hw [] b23 b3 b4 k3 k4 (FP.i2d mn) (FP.i2d p4) (9218868437227405312 : UInt64) ub T53.heap n0 Zs53 f55 f56 f57 f58 hd9_157) hZ (hw _ (List.mem_of_getElem? (i := 36) rfl)) (hw _ (List.mem_of_getElem? (i := 12) rfl)) (by decide) (by decide)) q62a q62c (g := (mkF m 157 #[.val (.int p0), .val (.int p1), .val (.int p2), .val (.int p3), .val (.int p4), .val (.int (0 : Int32)), .val (.int (1 : Int32)), .val (.int (1 : Int32)), .val (.int mn), .val (.int mx), .val (.double (9218868437227405312 : UInt64)), .second, .val (.double (18442240474082181120 : UInt64)), .second, .val (.ref b3), .val (.ref b4), .val (.ref b23), .unset, .unset] [(.int (0 : Int32)), (.ref b23)])) rfl (by rw [hml]; rfl) (Steps.refl _) (argsL := [(.int (0 : Int32))]) (rest := []) (lenOf pd_3 rfl) rfl (by show 2 * 0 + _ ≤ _; exact Nat.le_of_eq rfl) (hb hby at_157) (fun _ _ => ⟨rfl, rfl, (by decide : 5 + 0 ≤ _), (by decide : 10 + 0 ≤ _)⟩)
  dsimp only [Pt.U, Pt.locs, Pt.cells, Pt.slots] at X62 l62 y62 z62 st62 hQ62
  subst l62 y62 z62
  obtain ⟨rfl, N62q, eh62⟩ := hQ62
  have N62 := Fr.app N53 N62q
  have e62 : T62.heap = T53.heap := eh62
  obtain ⟨fs, hr, hrun, hended, hW, hsame⟩ := X62.leave (v := some (.int (1 : Int32))) (fun h => by rw [Bd.returns] at h; cases h)
  refine ⟨_, _, pre0 _ ?_, hrun, hended, _, _, rfl, ?_, ⟨_, rfl⟩, hW, hsame.mono (by decide) (by decide)⟩
  · show Steps p.tables e below (s₁.setTop (mkF m 0 #[.val (.int p0), .val (.int p1), .val (.int p2), .val (.int p3), .val (.int p4), .unset, .unset, .unset, .unset, .unset, .unset, .unset, .unset, .unset, .unset, .unset, .unset, .unset, .unset] [])) _
    refine XS.iloadN X0.here hx rfl (hb hby at_0) rfl ?_
    show Steps p.tables e below (s₁.setTop (mkF m 1 #[.val (.int p0), .val (.int p1), .val (.int p2), .val (.int p3), .val (.int p4), .unset, .unset, .unset, .unset, .unset, .unset, .unset, .unset, .unset, .unset, .unset, .unset, .unset, .unset] [(.int p3)])) _
    refine XS.iconst X0.here hx rfl (hb hby at_1) ?_
    show Steps p.tables e below (s₁.setTop (mkF m 2 #[.val (.int p0), .val (.int p1), .val (.int p2), .val (.int p3), .val (.int p4), .unset, .unset, .unset, .unset, .unset, .unset, .unset, .unset, .unset, .unset, .unset, .unset, .unset, .unset] [(.int (1 : Int32)), (.int p3)])) _
    refine XS.iand X0.here hx rfl (hb hby at_2) rfl ?_
    show Steps p.tables e below (s₁.setTop (mkF m 3 #[.val (.int p0), .val (.int p1), .val (.int p2), .val (.int p3), .val (.int p4), .unset, .unset, .unset, .unset, .unset, .unset, .unset, .unset, .unset, .unset, .unset, .unset, .unset, .unset] [(.int (p3 &&& (1 : Int32)))])) _
    rw [hv2]
    show Steps p.tables e below (s₁.setTop (mkF m 3 #[.val (.int p0), .val (.int p1), .val (.int p2), .val (.int p3), .val (.int p4), .unset, .unset, .unset, .unset, .unset, .unset, .unset, .unset, .unset, .unset, .unset, .unset, .unset, .unset] [(.int (0 : Int32))])) _
    refine XS.istore X0.here hx rfl (hb hby at_3) rfl (l' := #[.val (.int p0), .val (.int p1), .val (.int p2), .val (.int p3), .val (.int p4), .val (.int (0 : Int32)), .unset, .unset, .unset, .unset, .unset, .unset, .unset, .unset, .unset, .unset, .unset, .unset, .unset]) rfl ?_
    show Steps p.tables e below (s₁.setTop (mkF m 5 #[.val (.int p0), .val (.int p1), .val (.int p2), .val (.int p3), .val (.int p4), .val (.int (0 : Int32)), .unset, .unset, .unset, .unset, .unset, .unset, .unset, .unset, .unset, .unset, .unset, .unset, .unset] [])) _
    refine XS.iconst X0.here hx rfl (hb hby at_5) ?_
    show Steps p.tables e below (s₁.setTop (mkF m 6 #[.val (.int p0), .val (.int p1), .val (.int p2), .val (.int p3), .val (.int p4), .val (.int (0 : Int32)), .unset, .unset, .unset, .unset, .unset, .unset, .unset, .unset, .unset, .unset, .unset, .unset, .unset] [(.int (1 : Int32))])) _
    refine XS.iload X0.here hx rfl (hb hby at_6) rfl ?_
    show Steps p.tables e below (s₁.setTop (mkF m 8 #[.val (.int p0), .val (.int p1), .val (.int p2), .val (.int p3), .val (.int p4), .val (.int (0 : Int32)), .unset, .unset, .unset, .unset, .unset, .unset, .unset, .unset, .unset, .unset, .unset, .unset, .unset] [(.int (0 : Int32)), (.int (1 : Int32))])) _
    refine XS.isub X0.here hx rfl (hb hby at_8) rfl ?_
    show Steps p.tables e below (s₁.setTop (mkF m 9 #[.val (.int p0), .val (.int p1), .val (.int p2), .val (.int p3), .val (.int p4), .val (.int (0 : Int32)), .unset, .unset, .unset, .unset, .unset, .unset, .unset, .unset, .unset, .unset, .unset, .unset, .unset] [(.int ((1 : Int32) - (0 : Int32)))])) _
    rw [show ((1 : Int32) - (0 : Int32)) = (1 : Int32) by decide]
    show Steps p.tables e below (s₁.setTop (mkF m 9 #[.val (.int p0), .val (.int p1), .val (.int p2), .val (.int p3), .val (.int p4), .val (.int (0 : Int32)), .unset, .unset, .unset, .unset, .unset, .unset, .unset, .unset, .unset, .unset, .unset, .unset, .unset] [(.int (1 : Int32))])) _
    refine XS.istore X0.here hx rfl (hb hby at_9) rfl (l' := #[.val (.int p0), .val (.int p1), .val (.int p2), .val (.int p3), .val (.int p4), .val (.int (0 : Int32)), .val (.int (1 : Int32)), .unset, .unset, .unset, .unset, .unset, .unset, .unset, .unset, .unset, .unset, .unset, .unset]) rfl ?_
    show Steps p.tables e below (s₁.setTop (mkF m 11 #[.val (.int p0), .val (.int p1), .val (.int p2), .val (.int p3), .val (.int p4), .val (.int (0 : Int32)), .val (.int (1 : Int32)), .unset, .unset, .unset, .unset, .unset, .unset, .unset, .unset, .unset, .unset, .unset, .unset] [])) _
    refine XS.iloadN X0.here hx rfl (hb hby at_11) rfl ?_
    show Steps p.tables e below (s₁.setTop (mkF m 12 #[.val (.int p0), .val (.int p1), .val (.int p2), .val (.int p3), .val (.int p4), .val (.int (0 : Int32)), .val (.int (1 : Int32)), .unset, .unset, .unset, .unset, .unset, .unset, .unset, .unset, .unset, .unset, .unset, .unset] [(.int p2)])) _
    refine XS.iconst X0.here hx rfl (hb hby at_12) ?_
    show Steps p.tables e below (s₁.setTop (mkF m 13 #[.val (.int p0), .val (.int p1), .val (.int p2), .val (.int p3), .val (.int p4), .val (.int (0 : Int32)), .val (.int (1 : Int32)), .unset, .unset, .unset, .unset, .unset, .unset, .unset, .unset, .unset, .unset, .unset, .unset] [(.int (3 : Int32)), (.int p2)])) _
    refine XS.iand X0.here hx rfl (hb hby at_13) rfl ?_
    show Steps p.tables e below (s₁.setTop (mkF m 14 #[.val (.int p0), .val (.int p1), .val (.int p2), .val (.int p3), .val (.int p4), .val (.int (0 : Int32)), .val (.int (1 : Int32)), .unset, .unset, .unset, .unset, .unset, .unset, .unset, .unset, .unset, .unset, .unset, .unset] [(.int (p2 &&& (3 : Int32)))])) _
    rw [hv13]
    show Steps p.tables e below (s₁.setTop (mkF m 14 #[.val (.int p0), .val (.int p1), .val (.int p2), .val (.int p3), .val (.int p4), .val (.int (0 : Int32)), .val (.int (1 : Int32)), .unset, .unset, .unset, .unset, .unset, .unset, .unset, .unset, .unset, .unset, .unset, .unset] [(.int (1 : Int32))])) _
    refine XS.istore X0.here hx rfl (hb hby at_14) rfl (l' := #[.val (.int p0), .val (.int p1), .val (.int p2), .val (.int p3), .val (.int p4), .val (.int (0 : Int32)), .val (.int (1 : Int32)), .val (.int (1 : Int32)), .unset, .unset, .unset, .unset, .unset, .unset, .unset, .unset, .unset, .unset, .unset]) rfl ?_
    show Steps p.tables e below (s₁.setTop (mkF m 16 #[.val (.int p0), .val (.int p1), .val (.int p2), .val (.int p3), .val (.int p4), .val (.int (0 : Int32)), .val (.int (1 : Int32)), .val (.int (1 : Int32)), .unset, .unset, .unset, .unset, .unset, .unset, .unset, .unset, .unset, .unset, .unset] [])) _
    refine XS.iloadN X0.here hx rfl (hb hby at_16) rfl ?_
    show Steps p.tables e below (s₁.setTop (mkF m 17 #[.val (.int p0), .val (.int p1), .val (.int p2), .val (.int p3), .val (.int p4), .val (.int (0 : Int32)), .val (.int (1 : Int32)), .val (.int (1 : Int32)), .unset, .unset, .unset, .unset, .unset, .unset, .unset, .unset, .unset, .unset, .unset] [(.int p0)])) _
    refine XS.iloadN X0.here hx rfl (hb hby at_17) rfl ?_
    show Steps p.tables e below (s₁.setTop (mkF m 18 #[.val (.int p0), .val (.int p1), .val (.int p2), .val (.int p3), .val (.int p4), .val (.int (0 : Int32)), .val (.int (1 : Int32)), .val (.int (1 : Int32)), .unset, .unset, .unset, .unset, .unset, .unset, .unset, .unset, .unset, .unset, .unset] [(.int p1), (.int p0)])) _
    refine st1 _ ?_
    show Steps p.tables e below (T1.setTop (mkF m 21 #[.val (.int p0), .val (.int p1), .val (.int p2), .val (.int p3), .val (.int p4), .val (.int (0 : Int32)), .val (.int (1 : Int32)), .val (.int (1 : Int32)), .unset, .unset, .unset, .unset, .unset, .unset, .unset, .unset, .unset, .unset, .unset] [(.int mn)])) _
    refine XS.istore X1.here hx rfl (hb hby at_21) rfl (l' := #[.val (.int p0), .val (.int p1), .val (.int p2), .val (.int p3), .val (.int p4), .val (.int (0 : Int32)), .val (.int (1 : Int32)), .val (.int (1 : Int32)), .val (.int mn), .unset, .unset, .unset, .unset, .unset, .unset, .unset, .unset, .unset, .unset]) rfl ?_
    show Steps p.tables e below (T1.setTop (mkF m 23 #[.val (.int p0), .val (.int p1), .val (.int p2), .val (.int p3), .val (.int p4), .val (.int (0 : Int32)), .val (.int (1 : Int32)), .val (.int (1 : Int32)), .val (.int mn), .unset, .unset, .unset, .unset, .unset, .unset, .unset, .unset, .unset, .unset] [])) _
    refine XS.iloadN X1.here hx rfl (hb hby at_23) rfl ?_
    show Steps p.tables e below (T1.setTop (mkF m 24 #[.val (.int p0), .val (.int p1), .val (.int p2), .val (.int p3), .val (.int p4), .val (.int (0 : Int32)), .val (.int (1 : Int32)), .val (.int (1 : Int32)), .val (.int mn), .unset, .unset, .unset, .unset, .unset, .unset, .unset, .unset, .unset, .unset] [(.int p0)])) _
    refine XS.iloadN X1.here hx rfl (hb hby at_24) rfl ?_
    show Steps p.tables e below (T1.setTop (mkF m 25 #[.val (.int p0), .val (.int p1), .val (.int p2), .val (.int p3), .val (.int p4), .val (.int (0 : Int32)), .val (.int (1 : Int32)), .val (.int (1 : Int32)), .val (.int mn), .unset, .unset, .unset, .unset, .unset, .unset, .unset, .unset, .unset, .unset] [(.int p1), (.int p0)])) _
    refine st2 _ ?_
    show Steps p.tables e below (T2.setTop (mkF m 28 #[.val (.int p0), .val (.int p1), .val (.int p2), .val (.int p3), .val (.int p4), .val (.int (0 : Int32)), .val (.int (1 : Int32)), .val (.int (1 : Int32)), .val (.int mn), .unset, .unset, .unset, .unset, .unset, .unset, .unset, .unset, .unset, .unset] [(.int mx)])) _
    refine XS.istore X2.here hx rfl (hb hby at_28) rfl (l' := #[.val (.int p0), .val (.int p1), .val (.int p2), .val (.int p3), .val (.int p4), .val (.int (0 : Int32)), .val (.int (1 : Int32)), .val (.int (1 : Int32)), .val (.int mn), .val (.int mx), .unset, .unset, .unset, .unset, .unset, .unset, .unset, .unset, .unset]) rfl ?_
    show Steps p.tables e below (T2.setTop (mkF m 30 #[.val (.int p0), .val (.int p1), .val (.int p2), .val (.int p3), .val (.int p4), .val (.int (0 : Int32)), .val (.int (1 : Int32)), .val (.int (1 : Int32)), .val (.int mn), .val (.int mx), .unset, .unset, .unset, .unset, .unset, .unset, .unset, .unset, .unset] [])) _
    refine X2.ldc2DoubleC hx hown (mvT hZ (hw _ (List.mem_of_getElem? (i := 7) rfl))) (g := (mkF m 30 #[.val (.int p0), .val (.int p1), .val (.int p2), .val (.int p3), .val (.int p4), .val (.int (0 : Int32)), .val (.int (1 : Int32)), .val (.int (1 : Int32)), .val (.int mn), .val (.int mx), .unset, .unset, .unset, .unset, .unset, .unset, .unset, .unset, .unset] [])) rfl (hb hby at_30) _ ?_
    show Steps p.tables e below (T2.setTop (mkF m 33 #[.val (.int p0), .val (.int p1), .val (.int p2), .val (.int p3), .val (.int p4), .val (.int (0 : Int32)), .val (.int (1 : Int32)), .val (.int (1 : Int32)), .val (.int mn), .val (.int mx), .unset, .unset, .unset, .unset, .unset, .unset, .unset, .unset, .unset] [(.double (9218868437227405312 : UInt64))])) _
    refine XS.dstore X2.here hx rfl (hb hby at_33) rfl (l' := #[.val (.int p0), .val (.int p1), .val (.int p2), .val (.int p3), .val (.int p4), .val (.int (0 : Int32)), .val (.int (1 : Int32)), .val (.int (1 : Int32)), .val (.int mn), .val (.int mx), .val (.double (9218868437227405312 : UInt64)), .second, .unset, .unset, .unset, .unset, .unset, .unset, .unset]) rfl ?_
    show Steps p.tables e below (T2.setTop (mkF m 35 #[.val (.int p0), .val (.int p1), .val (.int p2), .val (.int p3), .val (.int p4), .val (.int (0 : Int32)), .val (.int (1 : Int32)), .val (.int (1 : Int32)), .val (.int mn), .val (.int mx), .val (.double (9218868437227405312 : UInt64)), .second, .unset, .unset, .unset, .unset, .unset, .unset, .unset] [])) _
    refine X2.ldc2DoubleC hx hown (mvT hZ (hw _ (List.mem_of_getElem? (i := 8) rfl))) (g := (mkF m 35 #[.val (.int p0), .val (.int p1), .val (.int p2), .val (.int p3), .val (.int p4), .val (.int (0 : Int32)), .val (.int (1 : Int32)), .val (.int (1 : Int32)), .val (.int mn), .val (.int mx), .val (.double (9218868437227405312 : UInt64)), .second, .unset, .unset, .unset, .unset, .unset, .unset, .unset] [])) rfl (hb hby at_35) _ ?_
    show Steps p.tables e below (T2.setTop (mkF m 38 #[.val (.int p0), .val (.int p1), .val (.int p2), .val (.int p3), .val (.int p4), .val (.int (0 : Int32)), .val (.int (1 : Int32)), .val (.int (1 : Int32)), .val (.int mn), .val (.int mx), .val (.double (9218868437227405312 : UInt64)), .second, .unset, .unset, .unset, .unset, .unset, .unset, .unset] [(.double (18442240474082181120 : UInt64))])) _
    refine XS.dstore X2.here hx rfl (hb hby at_38) rfl (l' := #[.val (.int p0), .val (.int p1), .val (.int p2), .val (.int p3), .val (.int p4), .val (.int (0 : Int32)), .val (.int (1 : Int32)), .val (.int (1 : Int32)), .val (.int mn), .val (.int mx), .val (.double (9218868437227405312 : UInt64)), .second, .val (.double (18442240474082181120 : UInt64)), .second, .unset, .unset, .unset, .unset, .unset]) rfl ?_
    show Steps p.tables e below (T2.setTop (mkF m 40 #[.val (.int p0), .val (.int p1), .val (.int p2), .val (.int p3), .val (.int p4), .val (.int (0 : Int32)), .val (.int (1 : Int32)), .val (.int (1 : Int32)), .val (.int mn), .val (.int mx), .val (.double (9218868437227405312 : UInt64)), .second, .val (.double (18442240474082181120 : UInt64)), .second, .unset, .unset, .unset, .unset, .unset] [])) _
    refine XS.iconst X2.here hx rfl (hb hby at_40) ?_
    show Steps p.tables e below (T2.setTop (mkF m 41 #[.val (.int p0), .val (.int p1), .val (.int p2), .val (.int p3), .val (.int p4), .val (.int (0 : Int32)), .val (.int (1 : Int32)), .val (.int (1 : Int32)), .val (.int mn), .val (.int mx), .val (.double (9218868437227405312 : UInt64)), .second, .val (.double (18442240474082181120 : UInt64)), .second, .unset, .unset, .unset, .unset, .unset] [(.int (2 : Int32))])) _
    refine st3 _ ?_
    show Steps p.tables e below (T3.setTop (mkF m 43 #[.val (.int p0), .val (.int p1), .val (.int p2), .val (.int p3), .val (.int p4), .val (.int (0 : Int32)), .val (.int (1 : Int32)), .val (.int (1 : Int32)), .val (.int mn), .val (.int mx), .val (.double (9218868437227405312 : UInt64)), .second, .val (.double (18442240474082181120 : UInt64)), .second, .unset, .unset, .unset, .unset, .unset] [(.ref b3)])) _
    refine XS.astore X3.here hx rfl (hb hby at_43) rfl rfl (l' := #[.val (.int p0), .val (.int p1), .val (.int p2), .val (.int p3), .val (.int p4), .val (.int (0 : Int32)), .val (.int (1 : Int32)), .val (.int (1 : Int32)), .val (.int mn), .val (.int mx), .val (.double (9218868437227405312 : UInt64)), .second, .val (.double (18442240474082181120 : UInt64)), .second, .val (.ref b3), .unset, .unset, .unset, .unset]) rfl ?_
    show Steps p.tables e below (T3.setTop (mkF m 45 #[.val (.int p0), .val (.int p1), .val (.int p2), .val (.int p3), .val (.int p4), .val (.int (0 : Int32)), .val (.int (1 : Int32)), .val (.int (1 : Int32)), .val (.int mn), .val (.int mx), .val (.double (9218868437227405312 : UInt64)), .second, .val (.double (18442240474082181120 : UInt64)), .second, .val (.ref b3), .unset, .unset, .unset, .unset] [])) _
    refine XS.iconst X3.here hx rfl (hb hby at_45) ?_
    show Steps p.tables e below (T3.setTop (mkF m 46 #[.val (.int p0), .val (.int p1), .val (.int p2), .val (.int p3), .val (.int p4), .val (.int (0 : Int32)), .val (.int (1 : Int32)), .val (.int (1 : Int32)), .val (.int mn), .val (.int mx), .val (.double (9218868437227405312 : UInt64)), .second, .val (.double (18442240474082181120 : UInt64)), .second, .val (.ref b3), .unset, .unset, .unset, .unset] [(.int (2 : Int32))])) _
    refine st4 _ ?_
    show Steps p.tables e below (T4.setTop (mkF m 48 #[.val (.int p0), .val (.int p1), .val (.int p2), .val (.int p3), .val (.int p4), .val (.int (0 : Int32)), .val (.int (1 : Int32)), .val (.int (1 : Int32)), .val (.int mn), .val (.int mx), .val (.double (9218868437227405312 : UInt64)), .second, .val (.double (18442240474082181120 : UInt64)), .second, .val (.ref b3), .unset, .unset, .unset, .unset] [(.ref b4)])) _
    refine XS.astore X4.here hx rfl (hb hby at_48) rfl rfl (l' := #[.val (.int p0), .val (.int p1), .val (.int p2), .val (.int p3), .val (.int p4), .val (.int (0 : Int32)), .val (.int (1 : Int32)), .val (.int (1 : Int32)), .val (.int mn), .val (.int mx), .val (.double (9218868437227405312 : UInt64)), .second, .val (.double (18442240474082181120 : UInt64)), .second, .val (.ref b3), .val (.ref b4), .unset, .unset, .unset]) rfl ?_
    show Steps p.tables e below (T4.setTop (mkF m 50 #[.val (.int p0), .val (.int p1), .val (.int p2), .val (.int p3), .val (.int p4), .val (.int (0 : Int32)), .val (.int (1 : Int32)), .val (.int (1 : Int32)), .val (.int mn), .val (.int mx), .val (.double (9218868437227405312 : UInt64)), .second, .val (.double (18442240474082181120 : UInt64)), .second, .val (.ref b3), .val (.ref b4), .unset, .unset, .unset] [])) _
    refine XS.aload X4.here hx rfl (hb hby at_50) rfl rfl ?_
    show Steps p.tables e below (T4.setTop (mkF m 52 #[.val (.int p0), .val (.int p1), .val (.int p2), .val (.int p3), .val (.int p4), .val (.int (0 : Int32)), .val (.int (1 : Int32)), .val (.int (1 : Int32)), .val (.int mn), .val (.int mx), .val (.double (9218868437227405312 : UInt64)), .second, .val (.double (18442240474082181120 : UInt64)), .second, .val (.ref b3), .val (.ref b4), .unset, .unset, .unset] [(.ref b3)])) _
    refine XS.iload X4.here hx rfl (hb hby at_52) rfl ?_
    show Steps p.tables e below (T4.setTop (mkF m 54 #[.val (.int p0), .val (.int p1), .val (.int p2), .val (.int p3), .val (.int p4), .val (.int (0 : Int32)), .val (.int (1 : Int32)), .val (.int (1 : Int32)), .val (.int mn), .val (.int mx), .val (.double (9218868437227405312 : UInt64)), .second, .val (.double (18442240474082181120 : UInt64)), .second, .val (.ref b3), .val (.ref b4), .unset, .unset, .unset] [(.int (0 : Int32)), (.ref b3)])) _
    refine XS.iload X4.here hx rfl (hb hby at_54) rfl ?_
    show Steps p.tables e below (T4.setTop (mkF m 56 #[.val (.int p0), .val (.int p1), .val (.int p2), .val (.int p3), .val (.int p4), .val (.int (0 : Int32)), .val (.int (1 : Int32)), .val (.int (1 : Int32)), .val (.int mn), .val (.int mx), .val (.double (9218868437227405312 : UInt64)), .second, .val (.double (18442240474082181120 : UInt64)), .second, .val (.ref b3), .val (.ref b4), .unset, .unset, .unset] [(.int (1 : Int32)), (.int (0 : Int32)), (.ref b3)])) _
    refine XS.iconst X4.here hx rfl (hb hby at_56) ?_
    show Steps p.tables e below (T4.setTop (mkF m 57 #[.val (.int p0), .val (.int p1), .val (.int p2), .val (.int p3), .val (.int p4), .val (.int (0 : Int32)), .val (.int (1 : Int32)), .val (.int (1 : Int32)), .val (.int mn), .val (.int mx), .val (.double (9218868437227405312 : UInt64)), .second, .val (.double (18442240474082181120 : UInt64)), .second, .val (.ref b3), .val (.ref b4), .unset, .unset, .unset] [(.int (2 : Int32)), (.int (1 : Int32)), (.int (0 : Int32)), (.ref b3)])) _
    refine XS.icmpNo X4.here hx rfl (hb hby at_57) rfl (feq (by decide : ¬ ((1 : Int32) = (2 : Int32)))).1 ?_
    show Steps p.tables e below (T4.setTop (mkF m 60 #[.val (.int p0), .val (.int p1), .val (.int p2), .val (.int p3), .val (.int p4), .val (.int (0 : Int32)), .val (.int (1 : Int32)), .val (.int (1 : Int32)), .val (.int mn), .val (.int mx), .val (.double (9218868437227405312 : UInt64)), .second, .val (.double (18442240474082181120 : UInt64)), .second, .val (.ref b3), .val (.ref b4), .unset, .unset, .unset] [(.int (0 : Int32)), (.ref b3)])) _
    refine XS.iload X4.here hx rfl (hb hby at_60) rfl ?_
    show Steps p.tables e below (T4.setTop (mkF m 62 #[.val (.int p0), .val (.int p1), .val (.int p2), .val (.int p3), .val (.int p4), .val (.int (0 : Int32)), .val (.int (1 : Int32)), .val (.int (1 : Int32)), .val (.int mn), .val (.int mx), .val (.double (9218868437227405312 : UInt64)), .second, .val (.double (18442240474082181120 : UInt64)), .second, .val (.ref b3), .val (.ref b4), .unset, .unset, .unset] [(.int (1 : Int32)), (.int (0 : Int32)), (.ref b3)])) _
    refine XS.iconst X4.here hx rfl (hb hby at_62) ?_
    show Steps p.tables e below (T4.setTop (mkF m 63 #[.val (.int p0), .val (.int p1), .val (.int p2), .val (.int p3), .val (.int p4), .val (.int (0 : Int32)), .val (.int (1 : Int32)), .val (.int (1 : Int32)), .val (.int mn), .val (.int mx), .val (.double (9218868437227405312 : UInt64)), .second, .val (.double (18442240474082181120 : UInt64)), .second, .val (.ref b3), .val (.ref b4), .unset, .unset, .unset] [(.int (3 : Int32)), (.int (1 : Int32)), (.int (0 : Int32)), (.ref b3)])) _
    refine XS.icmpYes X4.here hx rfl (pc0 := 63) (pc' := 71) rfl (hb hby at_63) rfl (feq (by decide : ¬ ((1 : Int32) = (3 : Int32)))).2 (by decide) (by decide) ?_
    show Steps p.tables e below (T4.setTop (mkF m 71 #[.val (.int p0), .val (.int p1), .val (.int p2), .val (.int p3), .val (.int p4), .val (.int (0 : Int32)), .val (.int (1 : Int32)), .val (.int (1 : Int32)), .val (.int mn), .val (.int mx), .val (.double (9218868437227405312 : UInt64)), .second, .val (.double (18442240474082181120 : UInt64)), .second, .val (.ref b3), .val (.ref b4), .unset, .unset, .unset] [(.int (0 : Int32)), (.ref b3)])) _
    refine XS.iload X4.here hx rfl (hb hby at_71) rfl ?_
    show Steps p.tables e below (T4.setTop (mkF m 73 #[.val (.int p0), .val (.int p1), .val (.int p2), .val (.int p3), .val (.int p4), .val (.int (0 : Int32)), .val (.int (1 : Int32)), .val (.int (1 : Int32)), .val (.int mn), .val (.int mx), .val (.double (9218868437227405312 : UInt64)), .second, .val (.double (18442240474082181120 : UInt64)), .second, .val (.ref b3), .val (.ref b4), .unset, .unset, .unset] [(.int mn), (.int (0 : Int32)), (.ref b3)])) _
    refine XS.i2dS X4.here hx rfl (hb hby at_73) rfl (v := (FP.i2d mn)) rfl ?_
    show Steps p.tables e below (T4.setTop (mkF m 74 #[.val (.int p0), .val (.int p1), .val (.int p2), .val (.int p3), .val (.int p4), .val (.int (0 : Int32)), .val (.int (1 : Int32)), .val (.int (1 : Int32)), .val (.int mn), .val (.int mx), .val (.double (9218868437227405312 : UInt64)), .second, .val (.double (18442240474082181120 : UInt64)), .second, .val (.ref b3), .val (.ref b4), .unset, .unset, .unset] [(.double (FP.i2d mn)), (.int (0 : Int32)), (.ref b3)])) _
    refine st7 _ ?_
    show Steps p.tables e below (T7.setTop (mkF m 75 #[.val (.int p0), .val (.int p1), .val (.int p2), .val (.int p3), .val (.int p4), .val (.int (0 : Int32)), .val (.int (1 : Int32)), .val (.int (1 : Int32)), .val (.int mn), .val (.int mx), .val (.double (9218868437227405312 : UInt64)), .second, .val (.double (18442240474082181120 : UInt64)), .second, .val (.ref b3), .val (.ref b4), .unset, .unset, .unset] [])) _
    refine XS.aload X7.here hx rfl (hb hby at_75) rfl rfl ?_
    show Steps p.tables e below (T7.setTop (mkF m 77 #[.val (.int p0), .val (.int p1), .val (.int p2), .val (.int p3), .val (.int p4), .val (.int (0 : Int32)), .val (.int (1 : Int32)), .val (.int (1 : Int32)), .val (.int mn), .val (.int mx), .val (.double (9218868437227405312 : UInt64)), .second, .val (.double (18442240474082181120 : UInt64)), .second, .val (.ref b3), .val (.ref b4), .unset, .unset, .unset] [(.ref b4)])) _
    refine XS.iload X7.here hx rfl (hb hby at_77) rfl ?_
    show Steps p.tables e below (T7.setTop (mkF m 79 #[.val (.int p0), .val (.int p1), .val (.int p2), .val (.int p3), .val (.int p4), .val (.int (0 : Int32)), .val (.int (1 : Int32)), .val (.int (1 : Int32)), .val (.int mn), .val (.int mx), .val (.double (9218868437227405312 : UInt64)), .second, .val (.double (18442240474082181120 : UInt64)), .second, .val (.ref b3), .val (.ref b4), .unset, .unset, .unset] [(.int (0 : Int32)), (.ref b4)])) _
    refine XS.iload X7.here hx rfl (hb hby at_79) rfl ?_
    show Steps p.tables e below (T7.setTop (mkF m 81 #[.val (.int p0), .val (.int p1), .val (.int p2), .val (.int p3), .val (.int p4), .val (.int (0 : Int32)), .val (.int (1 : Int32)), .val (.int (1 : Int32)), .val (.int mn), .val (.int mx), .val (.double (9218868437227405312 : UInt64)), .second, .val (.double (18442240474082181120 : UInt64)), .second, .val (.ref b3), .val (.ref b4), .unset, .unset, .unset] [(.int (1 : Int32)), (.int (0 : Int32)), (.ref b4)])) _
    refine XS.iconst X7.here hx rfl (hb hby at_81) ?_
    show Steps p.tables e below (T7.setTop (mkF m 82 #[.val (.int p0), .val (.int p1), .val (.int p2), .val (.int p3), .val (.int p4), .val (.int (0 : Int32)), .val (.int (1 : Int32)), .val (.int (1 : Int32)), .val (.int mn), .val (.int mx), .val (.double (9218868437227405312 : UInt64)), .second, .val (.double (18442240474082181120 : UInt64)), .second, .val (.ref b3), .val (.ref b4), .unset, .unset, .unset] [(.int (1 : Int32)), (.int (1 : Int32)), (.int (0 : Int32)), (.ref b4)])) _
    refine XS.icmpYes X7.here hx rfl (pc0 := 82) (pc' := 91) rfl (hb hby at_82) rfl (teq (by decide : (1 : Int32) = (1 : Int32))).1 (by decide) (by decide) ?_
    show Steps p.tables e below (T7.setTop (mkF m 91 #[.val (.int p0), .val (.int p1), .val (.int p2), .val (.int p3), .val (.int p4), .val (.int (0 : Int32)), .val (.int (1 : Int32)), .val (.int (1 : Int32)), .val (.int mn), .val (.int mx), .val (.double (9218868437227405312 : UInt64)), .second, .val (.double (18442240474082181120 : UInt64)), .second, .val (.ref b3), .val (.ref b4), .unset, .unset, .unset] [(.int (0 : Int32)), (.ref b4)])) _
    refine XS.dload X7.here hx rfl (hb hby at_91) rfl ?_
    show Steps p.tables e below (T7.setTop (mkF m 93 #[.val (.int p0), .val (.int p1), .val (.int p2), .val (.int p3), .val (.int p4), .val (.int (0 : Int32)), .val (.int (1 : Int32)), .val (.int (1 : Int32)), .val (.int mn), .val (.int mx), .val (.double (9218868437227405312 : UInt64)), .second, .val (.double (18442240474082181120 : UInt64)), .second, .val (.ref b3), .val (.ref b4), .unset, .unset, .unset] [(.double (9218868437227405312 : UInt64)), (.int (0 : Int32)), (.ref b4)])) _
    refine XS.goto X7.here hx rfl (pc0 := 93) (pc' := 99) rfl (hb hby at_93) (by decide) (by decide) ?_
    show Steps p.tables e below (T7.setTop (mkF m 99 #[.val (.int p0), .val (.int p1), .val (.int p2), .val (.int p3), .val (.int p4), .val (.int (0 : Int32)), .val (.int (1 : Int32)), .val (.int (1 : Int32)), .val (.int mn), .val (.int mx), .val (.double (9218868437227405312 : UInt64)), .second, .val (.double (18442240474082181120 : UInt64)), .second, .val (.ref b3), .val (.ref b4), .unset, .unset, .unset] [(.double (9218868437227405312 : UInt64)), (.int (0 : Int32)), (.ref b4)])) _
    refine st11 _ ?_
    show Steps p.tables e below (T11.setTop (mkF m 100 #[.val (.int p0), .val (.int p1), .val (.int p2), .val (.int p3), .val (.int p4), .val (.int (0 : Int32)), .val (.int (1 : Int32)), .val (.int (1 : Int32)), .val (.int mn), .val (.int mx), .val (.double (9218868437227405312 : UInt64)), .second, .val (.double (18442240474082181120 : UInt64)), .second, .val (.ref b3), .val (.ref b4), .unset, .unset, .unset] [])) _
    refine XS.aload X11.here hx rfl (hb hby at_100) rfl rfl ?_
    show Steps p.tables e below (T11.setTop (mkF m 102 #[.val (.int p0), .val (.int p1), .val (.int p2), .val (.int p3), .val (.int p4), .val (.int (0 : Int32)), .val (.int (1 : Int32)), .val (.int (1 : Int32)), .val (.int mn), .val (.int mx), .val (.double (9218868437227405312 : UInt64)), .second, .val (.double (18442240474082181120 : UInt64)), .second, .val (.ref b3), .val (.ref b4), .unset, .unset, .unset] [(.ref b3)])) _
    refine XS.iload X11.here hx rfl (hb hby at_102) rfl ?_
    show Steps p.tables e below (T11.setTop (mkF m 104 #[.val (.int p0), .val (.int p1), .val (.int p2), .val (.int p3), .val (.int p4), .val (.int (0 : Int32)), .val (.int (1 : Int32)), .val (.int (1 : Int32)), .val (.int mn), .val (.int mx), .val (.double (9218868437227405312 : UInt64)), .second, .val (.double (18442240474082181120 : UInt64)), .second, .val (.ref b3), .val (.ref b4), .unset, .unset, .unset] [(.int (1 : Int32)), (.ref b3)])) _
    refine XS.iload X11.here hx rfl (hb hby at_104) rfl ?_
    show Steps p.tables e below (T11.setTop (mkF m 106 #[.val (.int p0), .val (.int p1), .val (.int p2), .val (.int p3), .val (.int p4), .val (.int (0 : Int32)), .val (.int (1 : Int32)), .val (.int (1 : Int32)), .val (.int mn), .val (.int mx), .val (.double (9218868437227405312 : UInt64)), .second, .val (.double (18442240474082181120 : UInt64)), .second, .val (.ref b3), .val (.ref b4), .unset, .unset, .unset] [(.int p4), (.int (1 : Int32)), (.ref b3)])) _
    refine XS.i2dS X11.here hx rfl (hb hby at_106) rfl (v := (FP.i2d p4)) rfl ?_
    show Steps p.tables e below (T11.setTop (mkF m 107 #[.val (.int p0), .val (.int p1), .val (.int p2), .val (.int p3), .val (.int p4), .val (.int (0 : Int32)), .val (.int (1 : Int32)), .val (.int (1 : Int32)), .val (.int mn), .val (.int mx), .val (.double (9218868437227405312 : UInt64)), .second, .val (.double (18442240474082181120 : UInt64)), .second, .val (.ref b3), .val (.ref b4), .unset, .unset, .unset] [(.double (FP.i2d p4)), (.int (1 : Int32)), (.ref b3)])) _
    refine st15 _ ?_
    show Steps p.tables e below (T15.setTop (mkF m 108 #[.val (.int p0), .val (.int p1), .val (.int p2), .val (.int p3), .val (.int p4), .val (.int (0 : Int32)), .val (.int (1 : Int32)), .val (.int (1 : Int32)), .val (.int mn), .val (.int mx), .val (.double (9218868437227405312 : UInt64)), .second, .val (.double (18442240474082181120 : UInt64)), .second, .val (.ref b3), .val (.ref b4), .unset, .unset, .unset] [])) _
    refine XS.aload X15.here hx rfl (hb hby at_108) rfl rfl ?_
    show Steps p.tables e below (T15.setTop (mkF m 110 #[.val (.int p0), .val (.int p1), .val (.int p2), .val (.int p3), .val (.int p4), .val (.int (0 : Int32)), .val (.int (1 : Int32)), .val (.int (1 : Int32)), .val (.int mn), .val (.int mx), .val (.double (9218868437227405312 : UInt64)), .second, .val (.double (18442240474082181120 : UInt64)), .second, .val (.ref b3), .val (.ref b4), .unset, .unset, .unset] [(.ref b4)])) _
    refine XS.iload X15.here hx rfl (hb hby at_110) rfl ?_
    show Steps p.tables e below (T15.setTop (mkF m 112 #[.val (.int p0), .val (.int p1), .val (.int p2), .val (.int p3), .val (.int p4), .val (.int (0 : Int32)), .val (.int (1 : Int32)), .val (.int (1 : Int32)), .val (.int mn), .val (.int mx), .val (.double (9218868437227405312 : UInt64)), .second, .val (.double (18442240474082181120 : UInt64)), .second, .val (.ref b3), .val (.ref b4), .unset, .unset, .unset] [(.int (1 : Int32)), (.ref b4)])) _
    refine XS.iloadN X15.here hx rfl (hb hby at_112) rfl ?_
    show Steps p.tables e below (T15.setTop (mkF m 113 #[.val (.int p0), .val (.int p1), .val (.int p2), .val (.int p3), .val (.int p4), .val (.int (0 : Int32)), .val (.int (1 : Int32)), .val (.int (1 : Int32)), .val (.int mn), .val (.int mx), .val (.double (9218868437227405312 : UInt64)), .second, .val (.double (18442240474082181120 : UInt64)), .second, .val (.ref b3), .val (.ref b4), .unset, .unset, .unset] [(.int p2), (.int (1 : Int32)), (.ref b4)])) _
    refine XS.iconst X15.here hx rfl (hb hby at_113) ?_
    show Steps p.tables e below (T15.setTop (mkF m 114 #[.val (.int p0), .val (.int p1), .val (.int p2), .val (.int p3), .val (.int p4), .val (.int (0 : Int32)), .val (.int (1 : Int32)), .val (.int (1 : Int32)), .val (.int mn), .val (.int mx), .val (.double (9218868437227405312 : UInt64)), .second, .val (.double (18442240474082181120 : UInt64)), .second, .val (.ref b3), .val (.ref b4), .unset, .unset, .unset] [(.int (2 : Int32)), (.int p2), (.int (1 : Int32)), (.ref b4)])) _
    refine XS.ishr X15.here hx rfl (hb hby at_114) rfl ?_
    show Steps p.tables e below (T15.setTop (mkF m 115 #[.val (.int p0), .val (.int p1), .val (.int p2), .val (.int p3), .val (.int p4), .val (.int (0 : Int32)), .val (.int (1 : Int32)), .val (.int (1 : Int32)), .val (.int mn), .val (.int mx), .val (.double (9218868437227405312 : UInt64)), .second, .val (.double (18442240474082181120 : UInt64)), .second, .val (.ref b3), .val (.ref b4), .unset, .unset, .unset] [(.int (p2 >>> ((2 : Int32) &&& 31))), (.int (1 : Int32)), (.ref b4)])) _
    refine XS.iconst X15.here hx rfl (hb hby at_115) ?_
    show Steps p.tables e below (T15.setTop (mkF m 116 #[.val (.int p0), .val (.int p1), .val (.int p2), .val (.int p3), .val (.int p4), .val (.int (0 : Int32)), .val (.int (1 : Int32)), .val (.int (1 : Int32)), .val (.int mn), .val (.int mx), .val (.double (9218868437227405312 : UInt64)), .second, .val (.double (18442240474082181120 : UInt64)), .second, .val (.ref b3), .val (.ref b4), .unset, .unset, .unset] [(.int (1 : Int32)), (.int (p2 >>> ((2 : Int32) &&& 31))), (.int (1 : Int32)), (.ref b4)])) _
    refine XS.iand X15.here hx rfl (hb hby at_116) rfl ?_
    show Steps p.tables e below (T15.setTop (mkF m 117 #[.val (.int p0), .val (.int p1), .val (.int p2), .val (.int p3), .val (.int p4), .val (.int (0 : Int32)), .val (.int (1 : Int32)), .val (.int (1 : Int32)), .val (.int mn), .val (.int mx), .val (.double (9218868437227405312 : UInt64)), .second, .val (.double (18442240474082181120 : UInt64)), .second, .val (.ref b3), .val (.ref b4), .unset, .unset, .unset] [(.int ((p2 >>> ((2 : Int32) &&& 31)) &&& (1 : Int32))), (.int (1 : Int32)), (.ref b4)])) _
    refine jn18 _ ?_
    show Steps p.tables e below (T15.setTop (mkF m 128 #[.val (.int p0), .val (.int p1), .val (.int p2), .val (.int p3), .val (.int p4), .val (.int (0 : Int32)), .val (.int (1 : Int32)), .val (.int (1 : Int32)), .val (.int mn), .val (.int mx), .val (.double (9218868437227405312 : UInt64)), .second, .val (.double (18442240474082181120 : UInt64)), .second, .val (.ref b3), .val (.ref b4), .unset, .unset, .unset] [(.double ub), (.int (1 : Int32)), (.ref b4)])) _
    refine st20 _ ?_
    show Steps p.tables e below (T20.setTop (mkF m 129 #[.val (.int p0), .val (.int p1), .val (.int p2), .val (.int p3), .val (.int p4), .val (.int (0 : Int32)), .val (.int (1 : Int32)), .val (.int (1 : Int32)), .val (.int mn), .val (.int mx), .val (.double (9218868437227405312 : UInt64)), .second, .val (.double (18442240474082181120 : UInt64)), .second, .val (.ref b3), .val (.ref b4), .unset, .unset, .unset] [])) _
    refine st23 _ ?_
    show Steps p.tables e below (T23.setTop (mkF m 132 #[.val (.int p0), .val (.int p1), .val (.int p2), .val (.int p3), .val (.int p4), .val (.int (0 : Int32)), .val (.int (1 : Int32)), .val (.int (1 : Int32)), .val (.int mn), .val (.int mx), .val (.double (9218868437227405312 : UInt64)), .second, .val (.double (18442240474082181120 : UInt64)), .second, .val (.ref b3), .val (.ref b4), .unset, .unset, .unset] [(.ref b23)])) _
    refine XS.dup X23.here hx rfl (hb hby at_132) rfl rfl ?_
    show Steps p.tables e below (T23.setTop (mkF m 133 #[.val (.int p0), .val (.int p1), .val (.int p2), .val (.int p3), .val (.int p4), .val (.int (0 : Int32)), .val (.int (1 : Int32)), .val (.int (1 : Int32)), .val (.int mn), .val (.int mx), .val (.double (9218868437227405312 : UInt64)), .second, .val (.double (18442240474082181120 : UInt64)), .second, .val (.ref b3), .val (.ref b4), .unset, .unset, .unset] [(.ref b23), (.ref b23)])) _
    refine XS.aload X23.here hx rfl (hb hby at_133) rfl rfl ?_
    show Steps p.tables e below (T23.setTop (mkF m 135 #[.val (.int p0), .val (.int p1), .val (.int p2), .val (.int p3), .val (.int p4), .val (.int (0 : Int32)), .val (.int (1 : Int32)), .val (.int (1 : Int32)), .val (.int mn), .val (.int mx), .val (.double (9218868437227405312 : UInt64)), .second, .val (.double (18442240474082181120 : UInt64)), .second, .val (.ref b3), .val (.ref b4), .unset, .unset, .unset] [(.ref b3), (.ref b23), (.ref b23)])) _
    refine XS.aload X23.here hx rfl (hb hby at_135) rfl rfl ?_
    show Steps p.tables e below (T23.setTop (mkF m 137 #[.val (.int p0), .val (.int p1), .val (.int p2), .val (.int p3), .val (.int p4), .val (.int (0 : Int32)), .val (.int (1 : Int32)), .val (.int (1 : Int32)), .val (.int mn), .val (.int mx), .val (.double (9218868437227405312 : UInt64)), .second, .val (.double (18442240474082181120 : UInt64)), .second, .val (.ref b3), .val (.ref b4), .unset, .unset, .unset] [(.ref b4), (.ref b3), (.ref b23), (.ref b23)])) _
    refine XS.iconst X23.here hx rfl (hb hby at_137) ?_
    show Steps p.tables e below (T23.setTop (mkF m 138 #[.val (.int p0), .val (.int p1), .val (.int p2), .val (.int p3), .val (.int p4), .val (.int (0 : Int32)), .val (.int (1 : Int32)), .val (.int (1 : Int32)), .val (.int mn), .val (.int mx), .val (.double (9218868437227405312 : UInt64)), .second, .val (.double (18442240474082181120 : UInt64)), .second, .val (.ref b3), .val (.ref b4), .unset, .unset, .unset] [(.int (2 : Int32)), (.ref b4), (.ref b3), (.ref b23), (.ref b23)])) _
    refine st26 _ ?_
    show Steps p.tables e below (T26.setTop (mkF m 140 #[.val (.int p0), .val (.int p1), .val (.int p2), .val (.int p3), .val (.int p4), .val (.int (0 : Int32)), .val (.int (1 : Int32)), .val (.int (1 : Int32)), .val (.int mn), .val (.int mx), .val (.double (9218868437227405312 : UInt64)), .second, .val (.double (18442240474082181120 : UInt64)), .second, .val (.ref b3), .val (.ref b4), .unset, .unset, .unset] [(.ref b26), (.ref b4), (.ref b3), (.ref b23), (.ref b23)])) _
    refine XS.dup X26.here hx rfl (hb hby at_140) rfl rfl ?_
    show Steps p.tables e below (T26.setTop (mkF m 141 #[.val (.int p0), .val (.int p1), .val (.int p2), .val (.int p3), .val (.int p4), .val (.int (0 : Int32)), .val (.int (1 : Int32)), .val (.int (1 : Int32)), .val (.int mn), .val (.int mx), .val (.double (9218868437227405312 : UInt64)), .second, .val (.double (18442240474082181120 : UInt64)), .second, .val (.ref b3), .val (.ref b4), .unset, .unset, .unset] [(.ref b26), (.ref b26), (.ref b4), (.ref b3), (.ref b23), (.ref b23)])) _
    refine XS.iconst X26.here hx rfl (hb hby at_141) ?_
    show Steps p.tables e below (T26.setTop (mkF m 142 #[.val (.int p0), .val (.int p1), .val (.int p2), .val (.int p3), .val (.int p4), .val (.int (0 : Int32)), .val (.int (1 : Int32)), .val (.int (1 : Int32)), .val (.int mn), .val (.int mx), .val (.double (9218868437227405312 : UInt64)), .second, .val (.double (18442240474082181120 : UInt64)), .second, .val (.ref b3), .val (.ref b4), .unset, .unset, .unset] [(.int (0 : Int32)), (.ref b26), (.ref b26), (.ref b4), (.ref b3), (.ref b23), (.ref b23)])) _
    refine XS.iconst X26.here hx rfl (hb hby at_142) ?_
    show Steps p.tables e below (T26.setTop (mkF m 143 #[.val (.int p0), .val (.int p1), .val (.int p2), .val (.int p3), .val (.int p4), .val (.int (0 : Int32)), .val (.int (1 : Int32)), .val (.int (1 : Int32)), .val (.int mn), .val (.int mx), .val (.double (9218868437227405312 : UInt64)), .second, .val (.double (18442240474082181120 : UInt64)), .second, .val (.ref b3), .val (.ref b4), .unset, .unset, .unset] [(.int (-1 : Int32)), (.int (0 : Int32)), (.ref b26), (.ref b26), (.ref b4), (.ref b3), (.ref b23), (.ref b23)])) _
    refine st34 _ ?_
    show Steps p.tables e below (T34.setTop (mkF m 144 #[.val (.int p0), .val (.int p1), .val (.int p2), .val (.int p3), .val (.int p4), .val (.int (0 : Int32)), .val (.int (1 : Int32)), .val (.int (1 : Int32)), .val (.int mn), .val (.int mx), .val (.double (9218868437227405312 : UInt64)), .second, .val (.double (18442240474082181120 : UInt64)), .second, .val (.ref b3), .val (.ref b4), .unset, .unset, .unset] [(.ref b26), (.ref b4), (.ref b3), (.ref b23), (.ref b23)])) _
    refine XS.dup X34.here hx rfl (hb hby at_144) rfl rfl ?_
    show Steps p.tables e below (T34.setTop (mkF m 145 #[.val (.int p0), .val (.int p1), .val (.int p2), .val (.int p3), .val (.int p4), .val (.int (0 : Int32)), .val (.int (1 : Int32)), .val (.int (1 : Int32)), .val (.int mn), .val (.int mx), .val (.double (9218868437227405312 : UInt64)), .second, .val (.double (18442240474082181120 : UInt64)), .second, .val (.ref b3), .val (.ref b4), .unset, .unset, .unset] [(.ref b26), (.ref b26), (.ref b4), (.ref b3), (.ref b23), (.ref b23)])) _
    refine XS.iconst X34.here hx rfl (hb hby at_145) ?_
    show Steps p.tables e below (T34.setTop (mkF m 146 #[.val (.int p0), .val (.int p1), .val (.int p2), .val (.int p3), .val (.int p4), .val (.int (0 : Int32)), .val (.int (1 : Int32)), .val (.int (1 : Int32)), .val (.int mn), .val (.int mx), .val (.double (9218868437227405312 : UInt64)), .second, .val (.double (18442240474082181120 : UInt64)), .second, .val (.ref b3), .val (.ref b4), .unset, .unset, .unset] [(.int (1 : Int32)), (.ref b26), (.ref b26), (.ref b4), (.ref b3), (.ref b23), (.ref b23)])) _
    refine XS.iconst X34.here hx rfl (hb hby at_146) ?_
    show Steps p.tables e below (T34.setTop (mkF m 147 #[.val (.int p0), .val (.int p1), .val (.int p2), .val (.int p3), .val (.int p4), .val (.int (0 : Int32)), .val (.int (1 : Int32)), .val (.int (1 : Int32)), .val (.int mn), .val (.int mx), .val (.double (9218868437227405312 : UInt64)), .second, .val (.double (18442240474082181120 : UInt64)), .second, .val (.ref b3), .val (.ref b4), .unset, .unset, .unset] [(.int (-1 : Int32)), (.int (1 : Int32)), (.ref b26), (.ref b26), (.ref b4), (.ref b3), (.ref b23), (.ref b23)])) _
    refine st44 _ ?_
    show Steps p.tables e below (T44.setTop (mkF m 148 #[.val (.int p0), .val (.int p1), .val (.int p2), .val (.int p3), .val (.int p4), .val (.int (0 : Int32)), .val (.int (1 : Int32)), .val (.int (1 : Int32)), .val (.int mn), .val (.int mx), .val (.double (9218868437227405312 : UInt64)), .second, .val (.double (18442240474082181120 : UInt64)), .second, .val (.ref b3), .val (.ref b4), .unset, .unset, .unset] [(.ref b26), (.ref b4), (.ref b3), (.ref b23), (.ref b23)])) _
    refine st53.trans ?_
    show Steps p.tables e below (T53.setTop (mkF m 151 #[.val (.int p0), .val (.int p1), .val (.int p2), .val (.int p3), .val (.int p4), .val (.int (0 : Int32)), .val (.int (1 : Int32)), .val (.int (1 : Int32)), .val (.int mn), .val (.int mx), .val (.double (9218868437227405312 : UInt64)), .second, .val (.double (18442240474082181120 : UInt64)), .second, .val (.ref b3), .val (.ref b4), .unset, .unset, .unset] [(.ref b23)])) _
    refine XS.astore X53.here hx rfl (hb hby at_151) rfl rfl (l' := #[.val (.int p0), .val (.int p1), .val (.int p2), .val (.int p3), .val (.int p4), .val (.int (0 : Int32)), .val (.int (1 : Int32)), .val (.int (1 : Int32)), .val (.int mn), .val (.int mx), .val (.double (9218868437227405312 : UInt64)), .second, .val (.double (18442240474082181120 : UInt64)), .second, .val (.ref b3), .val (.ref b4), .val (.ref b23), .unset, .unset]) rfl ?_
    show Steps p.tables e below (T53.setTop (mkF m 153 #[.val (.int p0), .val (.int p1), .val (.int p2), .val (.int p3), .val (.int p4), .val (.int (0 : Int32)), .val (.int (1 : Int32)), .val (.int (1 : Int32)), .val (.int mn), .val (.int mx), .val (.double (9218868437227405312 : UInt64)), .second, .val (.double (18442240474082181120 : UInt64)), .second, .val (.ref b3), .val (.ref b4), .val (.ref b23), .unset, .unset] [])) _
    refine XS.aload X53.here hx rfl (hb hby at_153) rfl rfl ?_
    show Steps p.tables e below (T53.setTop (mkF m 155 #[.val (.int p0), .val (.int p1), .val (.int p2), .val (.int p3), .val (.int p4), .val (.int (0 : Int32)), .val (.int (1 : Int32)), .val (.int (1 : Int32)), .val (.int mn), .val (.int mx), .val (.double (9218868437227405312 : UInt64)), .second, .val (.double (18442240474082181120 : UInt64)), .second, .val (.ref b3), .val (.ref b4), .val (.ref b23), .unset, .unset] [(.ref b23)])) _
    refine XS.iload X53.here hx rfl (hb hby at_155) rfl ?_
    show Steps p.tables e below (T53.setTop (mkF m 157 #[.val (.int p0), .val (.int p1), .val (.int p2), .val (.int p3), .val (.int p4), .val (.int (0 : Int32)), .val (.int (1 : Int32)), .val (.int (1 : Int32)), .val (.int mn), .val (.int mx), .val (.double (9218868437227405312 : UInt64)), .second, .val (.double (18442240474082181120 : UInt64)), .second, .val (.ref b3), .val (.ref b4), .val (.ref b23), .unset, .unset] [(.int (0 : Int32)), (.ref b23)])) _
    refine st62.trans ?_
    show Steps p.tables e below (T62.setTop (mkF m 160 #[.val (.int p0), .val (.int p1), .val (.int p2), .val (.int p3), .val (.int p4), .val (.int (0 : Int32)), .val (.int (1 : Int32)), .val (.int (1 : Int32)), .val (.int mn), .val (.int mx), .val (.double (9218868437227405312 : UInt64)), .second, .val (.double (18442240474082181120 : UInt64)), .second, .val (.ref b3), .val (.ref b4), .val (.ref b23), .unset, .unset] [(.double (FP.i2d mn))])) _
    refine XS.dstore X62.here hx rfl (hb hby at_160) rfl (l' := #[.val (.int p0), .val (.int p1), .val (.int p2), .val (.int p3), .val (.int p4), .val (.int (0 : Int32)), .val (.int (1 : Int32)), .val (.int (1 : Int32)), .val (.int mn), .val (.int mx), .val (.double (9218868437227405312 : UInt64)), .second, .val (.double (18442240474082181120 : UInt64)), .second, .val (.ref b3), .val (.ref b4), .val (.ref b23), .val (.double (FP.i2d mn)), .second]) rfl ?_
    show Steps p.tables e below (T62.setTop (mkF m 162 #[.val (.int p0), .val (.int p1), .val (.int p2), .val (.int p3), .val (.int p4), .val (.int (0 : Int32)), .val (.int (1 : Int32)), .val (.int (1 : Int32)), .val (.int mn), .val (.int mx), .val (.double (9218868437227405312 : UInt64)), .second, .val (.double (18442240474082181120 : UInt64)), .second, .val (.ref b3), .val (.ref b4), .val (.ref b23), .val (.double (FP.i2d mn)), .second] [])) _
    refine XS.iload X62.here hx rfl (hb hby at_162) rfl ?_
    show Steps p.tables e below (T62.setTop (mkF m 164 #[.val (.int p0), .val (.int p1), .val (.int p2), .val (.int p3), .val (.int p4), .val (.int (0 : Int32)), .val (.int (1 : Int32)), .val (.int (1 : Int32)), .val (.int mn), .val (.int mx), .val (.double (9218868437227405312 : UInt64)), .second, .val (.double (18442240474082181120 : UInt64)), .second, .val (.ref b3), .val (.ref b4), .val (.ref b23), .val (.double (FP.i2d mn)), .second] [(.int (1 : Int32))])) _
    refine XS.ifYes X62.here hx rfl (pc0 := 164) (pc' := 191) rfl (hb hby at_164) rfl ((if0 _ _).trans (feq (by decide : ¬ ((1 : Int32) = (0 : Int32)))).2) (by decide) (by decide) ?_
    show Steps p.tables e below (T62.setTop (mkF m 191 #[.val (.int p0), .val (.int p1), .val (.int p2), .val (.int p3), .val (.int p4), .val (.int (0 : Int32)), .val (.int (1 : Int32)), .val (.int (1 : Int32)), .val (.int mn), .val (.int mx), .val (.double (9218868437227405312 : UInt64)), .second, .val (.double (18442240474082181120 : UInt64)), .second, .val (.ref b3), .val (.ref b4), .val (.ref b23), .val (.double (FP.i2d mn)), .second] [])) _
    refine XS.iload X62.here hx rfl (hb hby at_191) rfl ?_
    show Steps p.tables e below (T62.setTop (mkF m 193 #[.val (.int p0), .val (.int p1), .val (.int p2), .val (.int p3), .val (.int p4), .val (.int (0 : Int32)), .val (.int (1 : Int32)), .val (.int (1 : Int32)), .val (.int mn), .val (.int mx), .val (.double (9218868437227405312 : UInt64)), .second, .val (.double (18442240474082181120 : UInt64)), .second, .val (.ref b3), .val (.ref b4), .val (.ref b23), .val (.double (FP.i2d mn)), .second] [(.int (1 : Int32))])) _
    refine XS.iconst X62.here hx rfl (hb hby at_193) ?_
    show Steps p.tables e below (T62.setTop (mkF m 194 #[.val (.int p0), .val (.int p1), .val (.int p2), .val (.int p3), .val (.int p4), .val (.int (0 : Int32)), .val (.int (1 : Int32)), .val (.int (1 : Int32)), .val (.int mn), .val (.int mx), .val (.double (9218868437227405312 : UInt64)), .second, .val (.double (18442240474082181120 : UInt64)), .second, .val (.ref b3), .val (.ref b4), .val (.ref b23), .val (.double (FP.i2d mn)), .second] [(.int (1 : Int32)), (.int (1 : Int32))])) _
    refine XS.icmpNo X62.here hx rfl (hb hby at_194) rfl (teq (by decide : (1 : Int32) = (1 : Int32))).2 ?_
    show Steps p.tables e below (T62.setTop (mkF m 197 #[.val (.int p0), .val (.int p1), .val (.int p2), .val (.int p3), .val (.int p4), .val (.int (0 : Int32)), .val (.int (1 : Int32)), .val (.int (1 : Int32)), .val (.int mn), .val (.int mx), .val (.double (9218868437227405312 : UInt64)), .second, .val (.double (18442240474082181120 : UInt64)), .second, .val (.ref b3), .val (.ref b4), .val (.ref b23), .val (.double (FP.i2d mn)), .second] [])) _
    refine XS.dload X62.here hx rfl (hb hby at_197) rfl ?_
    show Steps p.tables e below (T62.setTop (mkF m 199 #[.val (.int p0), .val (.int p1), .val (.int p2), .val (.int p3), .val (.int p4), .val (.int (0 : Int32)), .val (.int (1 : Int32)), .val (.int (1 : Int32)), .val (.int mn), .val (.int mx), .val (.double (9218868437227405312 : UInt64)), .second, .val (.double (18442240474082181120 : UInt64)), .second, .val (.ref b3), .val (.ref b4), .val (.ref b23), .val (.double (FP.i2d mn)), .second] [(.double (FP.i2d mn))])) _
    refine XS.iload X62.here hx rfl (hb hby at_199) rfl ?_
    show Steps p.tables e below (T62.setTop (mkF m 201 #[.val (.int p0), .val (.int p1), .val (.int p2), .val (.int p3), .val (.int p4), .val (.int (0 : Int32)), .val (.int (1 : Int32)), .val (.int (1 : Int32)), .val (.int mn), .val (.int mx), .val (.double (9218868437227405312 : UInt64)), .second, .val (.double (18442240474082181120 : UInt64)), .second, .val (.ref b3), .val (.ref b4), .val (.ref b23), .val (.double (FP.i2d mn)), .second] [(.int mn), (.double (FP.i2d mn))])) _
    refine XS.i2dS X62.here hx rfl (hb hby at_201) rfl (v := (FP.i2d mn)) rfl ?_
    show Steps p.tables e below (T62.setTop (mkF m 202 #[.val (.int p0), .val (.int p1), .val (.int p2), .val (.int p3), .val (.int p4), .val (.int (0 : Int32)), .val (.int (1 : Int32)), .val (.int (1 : Int32)), .val (.int mn), .val (.int mx), .val (.double (9218868437227405312 : UInt64)), .second, .val (.double (18442240474082181120 : UInt64)), .second, .val (.ref b3), .val (.ref b4), .val (.ref b23), .val (.double (FP.i2d mn)), .second] [(.double (FP.i2d mn)), (.double (FP.i2d mn))])) _
    refine XS.dcmpS X62.here hx rfl (hb hby at_202) rfl (v := (0 : Int32)) hd202 ?_
    show Steps p.tables e below (T62.setTop (mkF m 203 #[.val (.int p0), .val (.int p1), .val (.int p2), .val (.int p3), .val (.int p4), .val (.int (0 : Int32)), .val (.int (1 : Int32)), .val (.int (1 : Int32)), .val (.int mn), .val (.int mx), .val (.double (9218868437227405312 : UInt64)), .second, .val (.double (18442240474082181120 : UInt64)), .second, .val (.ref b3), .val (.ref b4), .val (.ref b23), .val (.double (FP.i2d mn)), .second] [(.int (0 : Int32))])) _
    refine XS.ifNo X62.here hx rfl (hb hby at_203) rfl ((if0 _ _).trans (teq (by decide : (0 : Int32) = (0 : Int32))).2) ?_
    show Steps p.tables e below (T62.setTop (mkF m 206 #[.val (.int p0), .val (.int p1), .val (.int p2), .val (.int p3), .val (.int p4), .val (.int (0 : Int32)), .val (.int (1 : Int32)), .val (.int (1 : Int32)), .val (.int mn), .val (.int mx), .val (.double (9218868437227405312 : UInt64)), .second, .val (.double (18442240474082181120 : UInt64)), .second, .val (.ref b3), .val (.ref b4), .val (.ref b23), .val (.double (FP.i2d mn)), .second] [])) _
    refine XS.iconst X62.here hx rfl (hb hby at_206) ?_
    show Steps p.tables e below (T62.setTop (mkF m 207 #[.val (.int p0), .val (.int p1), .val (.int p2), .val (.int p3), .val (.int p4), .val (.int (0 : Int32)), .val (.int (1 : Int32)), .val (.int (1 : Int32)), .val (.int mn), .val (.int mx), .val (.double (9218868437227405312 : UInt64)), .second, .val (.double (18442240474082181120 : UInt64)), .second, .val (.ref b3), .val (.ref b4), .val (.ref b23), .val (.double (FP.i2d mn)), .second] [(.int (1 : Int32))])) _
    refine XS.goto X62.here hx rfl (pc0 := 207) (pc' := 211) rfl (hb hby at_207) (by decide) (by decide) ?_
    show Steps p.tables e below (T62.setTop (mkF m 211 #[.val (.int p0), .val (.int p1), .val (.int p2), .val (.int p3), .val (.int p4), .val (.int (0 : Int32)), .val (.int (1 : Int32)), .val (.int (1 : Int32)), .val (.int mn), .val (.int mx), .val (.double (9218868437227405312 : UInt64)), .second, .val (.double (18442240474082181120 : UInt64)), .second, .val (.ref b3), .val (.ref b4), .val (.ref b23), .val (.double (FP.i2d mn)), .second] [(.int (1 : Int32))])) _
    exact retN X62 hx (t := .boolean) Bd.returns (by simp) (hb hby at_211) hr
  · show Q0 n0 _ T62.heap _
    rw [e62]
    exact ⟨rfl, N62⟩
set_option maxRecDepth 65536 in
set_option maxHeartbeats 40000000 in
theorem rm0_11 (l : Launch) (Z : State) (a0 : Array Value) (hw : ∀ d ∈ tables_1, d.before a0 Z = true) (ws : List Jvm.Cond) (p0 : Int32) (p1 : Int32) (p2 : Int32) (p3 : Int32) (p4 : Int32) (mn : Int32) (mx : Int32) (ub : UInt64) (h0 : Heap) (n0 : Nat) (Z0 : n0 ≤ h0.size) (hv2 : (p3 &&& (1 : Int32)) = (1 : Int32)) (hv13 : (p2 &&& (3 : Int32)) = (1 : Int32)) (hr_r_18 : (if p1 < p0 then p1 else p0) = mn) (hr_r_25 : (if p0 < p1 then p1 else p0) = mx) (hj_ub : (if ((p2 >>> ((2 : Int32) &&& 31)) &&& (1 : Int32)) = (0 : Int32) then (FP.i2d p4) else (9218868437227405312 : UInt64)) = ub) (hd9_157 : (cmpValue (FP.dcmp (9218868437227405312 : UInt64) (9218868437227405312 : UInt64)) .l) = (0 : Int32)) (hd202 : (cmpValue (FP.dcmp (FP.i2d mn) (FP.i2d mn)) .l) = (0 : Int32)) :
    MetFree l x (head1 (Jvm.Cond.code x code maxLocals ret :: ws) room_1) (fun a U => a = #[(.int p0), (.int p1), (.int p2), (.int p3), (.int p4)] ∧ Z.Warmed39 U.vm ∧ U.heap = h0) (fun _ _ _ _ _ => True) (fun _ U o U' => ∃ v L, o = .returned v ∧ Q0 n0 v U'.heap L ∧ FrameEnd U o U' L room_1.cells room_1.slots) := by
  refine MetFree.of_bodySF (plainFor_of_name pn_com_example_hedge_hedge_ValueBoundsValuePinLaw) hisR ?_
  intro p e s m args below meth c s₁ Bd hml0 hP hK
  obtain ⟨rfl, hZ, hh⟩ := hP
  have hx := Bd.exec
  have hby := Bd.bytes
  have hml : c.maxLocals = 19 := hml0
  have hown : s.vm.findClass "com/example/hedge/hedge/ValueBoundsValuePinLaw" = some m.cls := findClass_of_methodNamed Bd.named
  have hnm := (name_of_methodNamed Bd.named Bd.method).1
  have X0 : Stand p l e room_1 s m #[(.int p0), (.int p1), (.int p2), (.int p3), (.int p4)] below meth c s₁ [] 0 0 := Stand.of_body Bd
  have e0 : s₁.heap = h0 := by rw [← hh, Bd.state]; rfl
  have N0 := Fr.nil n0
  have pre0 : ∀ t, Steps p.tables e below (s₁.setTop (mkF m 0 #[.val (.int p0), .val (.int p1), .val (.int p2), .val (.int p3), .val (.int p4), .unset, .unset, .unset, .unset, .unset, .unset, .unset, .unset, .unset, .unset, .unset, .unset, .unset, .unset] [])) t → Steps p.tables e below (s₁.setTop (entryFrame m #[(.int p0), (.int p1), (.int p2), (.int p3), (.int p4)] maxLocals)) t := fun t k => castTop (ef_0_IIIII m p0 p1 p2 p3 p4) k
  obtain ⟨_, _, ⟨T1, L1, k1, n1⟩, -, X1, ⟨Lc1, hQ1, l1, y1, z1⟩, st1⟩ := Jvm.LawKit.callS X0 hx (y := (⟨"java/lang/Math", "min", "(II)I"⟩ : MethodName)) hown (mvT hZ (hw _ (List.mem_of_getElem? (i := 0) rfl))) (mvT hZ (hw _ (List.mem_of_getElem? (i := 1) rfl))) (mvT hZ (hw _ (List.mem_of_getElem? (i := 2) rfl))) (mvT hZ (hw _ (List.mem_of_getElem? (i := 3) rfl))) (by decide) (backOf (W := 0) (rm1M l Z a0 hw [] p0 p1 mn h0 n0 Z0 hr_r_18) hZ (hw _ (List.mem_of_getElem? (i := 3) rfl)) (hw _ (List.mem_of_getElem? (i := 2) rfl)) (by decide) (by decide)) (g := (mkF m 18 #[.val (.int p0), .val (.int p1), .val (.int p2), .val (.int p3), .val (.int p4), .val (.int (1 : Int32)), .val (.int (0 : Int32)), .val (.int (1 : Int32)), .unset, .unset, .unset, .unset, .unset, .unset, .unset, .unset, .unset, .unset, .unset] [(.int p1), (.int p0)])) rfl (by rw [hml]; rfl) (argsL := [(.int p0), (.int p1)]) (rest := []) (lenOf pd_1 rfl) rfl (by show 2 * 0 + _ ≤ _; exact Nat.le_of_eq rfl) (hb hby at_18) (fun _ _ => ⟨rfl, e0, (by decide : 0 + 0 ≤ _), (by decide : 0 + 0 ≤ _)⟩)
  dsimp only [Pt.U, Pt.locs, Pt.cells, Pt.slots] at X1 l1 y1 z1 st1 hQ1
  subst l1 y1 z1
  obtain ⟨rfl, N1q, eh1⟩ := hQ1
  have N1 := Fr.app N0 N1q
  have e1 : T1.heap = h0 := eh1
  obtain ⟨_, _, ⟨T2, L2, k2, n2⟩, -, X2, ⟨Lc2, hQ2, l2, y2, z2⟩, st2⟩ := Jvm.LawKit.callS X1 hx (y := (⟨"java/lang/Math", "max", "(II)I"⟩ : MethodName)) hown (mvT hZ (hw _ (List.mem_of_getElem? (i := 4) rfl))) (mvT hZ (hw _ (List.mem_of_getElem? (i := 5) rfl))) (mvT hZ (hw _ (List.mem_of_getElem? (i := 2) rfl))) (mvT hZ (hw _ (List.mem_of_getElem? (i := 6) rfl))) (by decide) (backOf (W := 0) (rm2M l Z a0 hw [] p0 p1 mx h0 n0 Z0 hr_r_25) hZ (hw _ (List.mem_of_getElem? (i := 6) rfl)) (hw _ (List.mem_of_getElem? (i := 2) rfl)) (by decide) (by decide)) (g := (mkF m 25 #[.val (.int p0), .val (.int p1), .val (.int p2), .val (.int p3), .val (.int p4), .val (.int (1 : Int32)), .val (.int (0 : Int32)), .val (.int (1 : Int32)), .val (.int mn), .unset, .unset, .unset, .unset, .unset, .unset, .unset, .unset, .unset, .unset] [(.int p1), (.int p0)])) rfl (by rw [hml]; rfl) (argsL := [(.int p0), (.int p1)]) (rest := []) (lenOf pd_1 rfl) rfl (by show 2 * 0 + _ ≤ _; exact Nat.le_of_eq rfl) (hb hby at_25) (fun _ _ => ⟨rfl, e1, (by decide : 0 + 0 ≤ _), (by decide : 0 + 0 ≤ _)⟩)
  dsimp only [Pt.U, Pt.locs, Pt.cells, Pt.slots] at X2 l2 y2 z2 st2 hQ2
  subst l2 y2 z2
  obtain ⟨rfl, N2q, eh2⟩ := hQ2
  have N2 := Fr.app N1 N2q
  have e2 : T2.heap = h0 := eh2
  obtain ⟨T3, h3, k3, X3, e3, E3, A3, st3⟩ := newP X2 hx hZ (hw _ (List.mem_of_getElem? (i := 9) rfl)) e2 (g := (mkF m 41 #[.val (.int p0), .val (.int p1), .val (.int p2), .val (.int p3), .val (.int p4), .val (.int (1 : Int32)), .val (.int (0 : Int32)), .val (.int (1 : Int32)), .val (.int mn), .val (.int mx), .val (.double (9218868437227405312 : UInt64)), .second, .val (.double (18442240474082181120 : UInt64)), .second, .unset, .unset, .unset, .unset, .unset] [(.int (2 : Int32))])) rfl (hb hby at_41) rfl (by decide) (cap := 2) (by decide) (by decide) (by decide) (by decide)
  obtain ⟨b3, g3⟩ : ∃ z, z = h0.size := ⟨_, rfl⟩
  rw [← g3] at A3 st3
  have g_b3 : n0 ≤ b3 := Nat.le_trans Z0 (Nat.le_of_eq g3.symm)
  have sz_b3 : h0.size ≤ b3 := Nat.le_trans (Keep.refl h0 []).1 (Nat.le_of_eq g3.symm)
  have K3 : Keep h0 h3 [] := (Keep.refl h0 []).ext E3
  have Zs3 := Nat.le_trans Z0 E3.1
  have V3 : Arv Z h3 b3 k3 .double (2 : Int32) [(.double (0 : UInt64)), (.double (0 : UInt64))] (.double (0 : UInt64)) := (Arv.new A3 (by decide)).pad (pad_rep [] (.double (0 : UInt64)) 2)
  obtain ⟨T4, h4, k4, X4, e4, E4, A4, st4⟩ := newP X3 hx hZ (hw _ (List.mem_of_getElem? (i := 9) rfl)) e3 (g := (mkF m 46 #[.val (.int p0), .val (.int p1), .val (.int p2), .val (.int p3), .val (.int p4), .val (.int (1 : Int32)), .val (.int (0 : Int32)), .val (.int (1 : Int32)), .val (.int mn), .val (.int mx), .val (.double (9218868437227405312 : UInt64)), .second, .val (.double (18442240474082181120 : UInt64)), .second, .val (.ref b3), .unset, .unset, .unset, .unset] [(.int (2 : Int32))])) rfl (hb hby at_46) rfl (by decide) (cap := 2) (by decide) (by decide) (by decide) (by decide)
  obtain ⟨b4, g4⟩ : ∃ z, z = h3.size := ⟨_, rfl⟩
  rw [← g4] at A4 st4
  have ne_b3_b4 : b3 ≠ b4 := Nat.ne_of_lt (Nat.lt_of_lt_of_le V3.lt (Nat.le_of_eq g4.symm))
  have g_b4 : n0 ≤ b4 := Nat.le_trans Zs3 (Nat.le_of_eq g4.symm)
  have sz_b4 : h0.size ≤ b4 := Nat.le_trans K3.1 (Nat.le_of_eq g4.symm)
  have f5 := V3.ext E4
  have K4 : Keep h0 h4 [] := K3.ext E4
  have Zs4 := Nat.le_trans Zs3 E4.1
  have V4 : Arv Z h4 b4 k4 .double (2 : Int32) [(.double (0 : UInt64)), (.double (0 : UInt64))] (.double (0 : UInt64)) := (Arv.new A4 (by decide)).pad (pad_rep [] (.double (0 : UInt64)) 2)
  obtain ⟨cq6, Arq6, qq6, Sq6, Nq6, Hq6, Gq6⟩ := id f5
  obtain ⟨T7, h7, X7, e7, W7, st7⟩ := stD X4 hx hZ e4 Arq6 (j := (1 : Int32)) (inb_of Sq6 ⟨by decide, by decide⟩) (g := (mkF m 74 #[.val (.int p0), .val (.int p1), .val (.int p2), .val (.int p3), .val (.int p4), .val (.int (1 : Int32)), .val (.int (0 : Int32)), .val (.int (1 : Int32)), .val (.int mn), .val (.int mx), .val (.double (9218868437227405312 : UInt64)), .second, .val (.double (18442240474082181120 : UInt64)), .second, .val (.ref b3), .val (.ref b4), .unset, .unset, .unset] [(.double (FP.i2d mn)), (.int (1 : Int32)), (.ref b3)])) rfl rfl (hb hby at_74)
  have f8 := V4.other W7 (Ne.symm ne_b3_b4)
  have K7 : Keep h0 h7 [] := K4.wr W7 (Or.inr sz_b3)
  have Zs7 := Nat.le_trans Zs4 (Keep.of_wr W7).1
  have N7 := Fr.snoc X7 N2 g_b3
  have f9 : Arv Z h7 b3 k3 .double (2 : Int32) [(.double (0 : UInt64)), (.double (FP.i2d mn))] (.double (0 : UInt64)) := Arv.set Arq6 qq6 Sq6 Nq6 Hq6 Gq6 rfl W7 1 rfl (Nat.le_of_ble_eq_true rfl)
  obtain ⟨cq10, Arq10, qq10, Sq10, Nq10, Hq10, Gq10⟩ := id f8
  obtain ⟨T11, h11, X11, e11, W11, st11⟩ := stD X7 hx hZ e7 Arq10 (j := (1 : Int32)) (inb_of Sq10 ⟨by decide, by decide⟩) (g := (mkF m 99 #[.val (.int p0), .val (.int p1), .val (.int p2), .val (.int p3), .val (.int p4), .val (.int (1 : Int32)), .val (.int (0 : Int32)), .val (.int (1 : Int32)), .val (.int mn), .val (.int mx), .val (.double (9218868437227405312 : UInt64)), .second, .val (.double (18442240474082181120 : UInt64)), .second, .val (.ref b3), .val (.ref b4), .unset, .unset, .unset] [(.double (9218868437227405312 : UInt64)), (.int (1 : Int32)), (.ref b4)])) rfl rfl (hb hby at_99)
  have f12 := f9.other W11 ne_b3_b4
  have K11 : Keep h0 h11 [] := K7.wr W11 (Or.inr sz_b4)
  have Zs11 := Nat.le_trans Zs7 (Keep.of_wr W11).1
  have N11 := Fr.snoc X11 N7 g_b4
  have f13 : Arv Z h11 b4 k4 .double (2 : Int32) [(.double (0 : UInt64)), (.double (9218868437227405312 : UInt64))] (.double (0 : UInt64)) := Arv.set Arq10 qq10 Sq10 Nq10 Hq10 Gq10 rfl W11 1 rfl (Nat.le_of_ble_eq_true rfl)
  obtain ⟨cq14, Arq14, qq14, Sq14, Nq14, Hq14, Gq14⟩ := id f12
  obtain ⟨T15, h15, X15, e15, W15, st15⟩ := stD X11 hx hZ e11 Arq14 (j := (0 : Int32)) (inb_of Sq14 ⟨by decide, by decide⟩) (g := (mkF m 107 #[.val (.int p0), .val (.int p1), .val (.int p2), .val (.int p3), .val (.int p4), .val (.int (1 : Int32)), .val (.int (0 : Int32)), .val (.int (1 : Int32)), .val (.int mn), .val (.int mx), .val (.double (9218868437227405312 : UInt64)), .second, .val (.double (18442240474082181120 : UInt64)), .second, .val (.ref b3), .val (.ref b4), .unset, .unset, .unset] [(.double (FP.i2d p4)), (.int (0 : Int32)), (.ref b3)])) rfl rfl (hb hby at_107)
  have f16 := f13.other W15 (Ne.symm ne_b3_b4)
  have K15 : Keep h0 h15 [] := K11.wr W15 (Or.inr sz_b3)
  have Zs15 := Nat.le_trans Zs11 (Keep.of_wr W15).1
  have N15 := Fr.snoc X15 N11 g_b3
  have f17 : Arv Z h15 b3 k3 .double (2 : Int32) [(.double (FP.i2d p4)), (.double (FP.i2d mn))] (.double (0 : UInt64)) := Arv.set Arq14 qq14 Sq14 Nq14 Hq14 Gq14 rfl W15 0 rfl (Nat.le_of_ble_eq_true rfl)
  have jn18 : ∀ target, Steps p.tables e below (T15.setTop (mkF m 128 #[.val (.int p0), .val (.int p1), .val (.int p2), .val (.int p3), .val (.int p4), .val (.int (1 : Int32)), .val (.int (0 : Int32)), .val (.int (1 : Int32)), .val (.int mn), .val (.int mx), .val (.double (9218868437227405312 : UInt64)), .second, .val (.double (18442240474082181120 : UInt64)), .second, .val (.ref b3), .val (.ref b4), .unset, .unset, .unset] [(.double ub), (.int (0 : Int32)), (.ref b4)])) target → Steps p.tables e below (T15.setTop (mkF m 117 #[.val (.int p0), .val (.int p1), .val (.int p2), .val (.int p3), .val (.int p4), .val (.int (1 : Int32)), .val (.int (0 : Int32)), .val (.int (1 : Int32)), .val (.int mn), .val (.int mx), .val (.double (9218868437227405312 : UInt64)), .second, .val (.double (18442240474082181120 : UInt64)), .second, .val (.ref b3), .val (.ref b4), .unset, .unset, .unset] [(.int ((p2 >>> ((2 : Int32) &&& 31)) &&& (1 : Int32))), (.int (0 : Int32)), (.ref b4)])) target := by
    intro target kt
    by_cases hq : ((p2 >>> ((2 : Int32) &&& 31)) &&& (1 : Int32)) = (0 : Int32)
    · rw [if_pos hq] at hj_ub; subst hj_ub
      show Steps p.tables e below (T15.setTop (mkF m 117 #[.val (.int p0), .val (.int p1), .val (.int p2), .val (.int p3), .val (.int p4), .val (.int (1 : Int32)), .val (.int (0 : Int32)), .val (.int (1 : Int32)), .val (.int mn), .val (.int mx), .val (.double (9218868437227405312 : UInt64)), .second, .val (.double (18442240474082181120 : UInt64)), .second, .val (.ref b3), .val (.ref b4), .unset, .unset, .unset] [(.int ((p2 >>> ((2 : Int32) &&& 31)) &&& (1 : Int32))), (.int (0 : Int32)), (.ref b4)])) _
      refine XS.ifYes X15.here hx rfl (pc0 := 117) (pc' := 125) rfl (hb hby at_117) rfl ((if0 _ _).trans (teq hq).1) (by decide) (by decide) ?_
      show Steps p.tables e below (T15.setTop (mkF m 125 #[.val (.int p0), .val (.int p1), .val (.int p2), .val (.int p3), .val (.int p4), .val (.int (1 : Int32)), .val (.int (0 : Int32)), .val (.int (1 : Int32)), .val (.int mn), .val (.int mx), .val (.double (9218868437227405312 : UInt64)), .second, .val (.double (18442240474082181120 : UInt64)), .second, .val (.ref b3), .val (.ref b4), .unset, .unset, .unset] [(.int (0 : Int32)), (.ref b4)])) _
      refine XS.iload X15.here hx rfl (hb hby at_125) rfl ?_
      show Steps p.tables e below (T15.setTop (mkF m 127 #[.val (.int p0), .val (.int p1), .val (.int p2), .val (.int p3), .val (.int p4), .val (.int (1 : Int32)), .val (.int (0 : Int32)), .val (.int (1 : Int32)), .val (.int mn), .val (.int mx), .val (.double (9218868437227405312 : UInt64)), .second, .val (.double (18442240474082181120 : UInt64)), .second, .val (.ref b3), .val (.ref b4), .unset, .unset, .unset] [(.int p4), (.int (0 : Int32)), (.ref b4)])) _
      refine XS.i2dS X15.here hx rfl (hb hby at_127) rfl (v := (FP.i2d p4)) rfl ?_
      show Steps p.tables e below (T15.setTop (mkF m 128 #[.val (.int p0), .val (.int p1), .val (.int p2), .val (.int p3), .val (.int p4), .val (.int (1 : Int32)), .val (.int (0 : Int32)), .val (.int (1 : Int32)), .val (.int mn), .val (.int mx), .val (.double (9218868437227405312 : UInt64)), .second, .val (.double (18442240474082181120 : UInt64)), .second, .val (.ref b3), .val (.ref b4), .unset, .unset, .unset] [(.double (FP.i2d p4)), (.int (0 : Int32)), (.ref b4)])) _
      exact kt
    · rw [if_neg hq] at hj_ub; subst hj_ub
      show Steps p.tables e below (T15.setTop (mkF m 117 #[.val (.int p0), .val (.int p1), .val (.int p2), .val (.int p3), .val (.int p4), .val (.int (1 : Int32)), .val (.int (0 : Int32)), .val (.int (1 : Int32)), .val (.int mn), .val (.int mx), .val (.double (9218868437227405312 : UInt64)), .second, .val (.double (18442240474082181120 : UInt64)), .second, .val (.ref b3), .val (.ref b4), .unset, .unset, .unset] [(.int ((p2 >>> ((2 : Int32) &&& 31)) &&& (1 : Int32))), (.int (0 : Int32)), (.ref b4)])) _
      refine XS.ifNo X15.here hx rfl (hb hby at_117) rfl ((if0 _ _).trans (feq hq).1) ?_
      show Steps p.tables e below (T15.setTop (mkF m 120 #[.val (.int p0), .val (.int p1), .val (.int p2), .val (.int p3), .val (.int p4), .val (.int (1 : Int32)), .val (.int (0 : Int32)), .val (.int (1 : Int32)), .val (.int mn), .val (.int mx), .val (.double (9218868437227405312 : UInt64)), .second, .val (.double (18442240474082181120 : UInt64)), .second, .val (.ref b3), .val (.ref b4), .unset, .unset, .unset] [(.int (0 : Int32)), (.ref b4)])) _
      refine XS.dload X15.here hx rfl (hb hby at_120) rfl ?_
      show Steps p.tables e below (T15.setTop (mkF m 122 #[.val (.int p0), .val (.int p1), .val (.int p2), .val (.int p3), .val (.int p4), .val (.int (1 : Int32)), .val (.int (0 : Int32)), .val (.int (1 : Int32)), .val (.int mn), .val (.int mx), .val (.double (9218868437227405312 : UInt64)), .second, .val (.double (18442240474082181120 : UInt64)), .second, .val (.ref b3), .val (.ref b4), .unset, .unset, .unset] [(.double (9218868437227405312 : UInt64)), (.int (0 : Int32)), (.ref b4)])) _
      refine XS.goto X15.here hx rfl (pc0 := 122) (pc' := 128) rfl (hb hby at_122) (by decide) (by decide) ?_
      show Steps p.tables e below (T15.setTop (mkF m 128 #[.val (.int p0), .val (.int p1), .val (.int p2), .val (.int p3), .val (.int p4), .val (.int (1 : Int32)), .val (.int (0 : Int32)), .val (.int (1 : Int32)), .val (.int mn), .val (.int mx), .val (.double (9218868437227405312 : UInt64)), .second, .val (.double (18442240474082181120 : UInt64)), .second, .val (.ref b3), .val (.ref b4), .unset, .unset, .unset] [(.double (9218868437227405312 : UInt64)), (.int (0 : Int32)), (.ref b4)])) _
      exact kt
  obtain ⟨cq19, Arq19, qq19, Sq19, Nq19, Hq19, Gq19⟩ := id f16
  obtain ⟨T20, h20, X20, e20, W20, st20⟩ := stD X15 hx hZ e15 Arq19 (j := (0 : Int32)) (inb_of Sq19 ⟨by decide, by decide⟩) (g := (mkF m 128 #[.val (.int p0), .val (.int p1), .val (.int p2), .val (.int p3), .val (.int p4), .val (.int (1 : Int32)), .val (.int (0 : Int32)), .val (.int (1 : Int32)), .val (.int mn), .val (.int mx), .val (.double (9218868437227405312 : UInt64)), .second, .val (.double (18442240474082181120 : UInt64)), .second, .val (.ref b3), .val (.ref b4), .unset, .unset, .unset] [(.double ub), (.int (0 : Int32)), (.ref b4)])) rfl rfl (hb hby at_128)
  have f21 := f17.other W20 ne_b3_b4
  have K20 : Keep h0 h20 [] := K15.wr W20 (Or.inr sz_b4)
  have Zs20 := Nat.le_trans Zs15 (Keep.of_wr W20).1
  have N20 := Fr.snoc X20 N15 g_b4
  have f22 : Arv Z h20 b4 k4 .double (2 : Int32) [(.double ub), (.double (9218868437227405312 : UInt64))] (.double (0 : UInt64)) := Arv.set Arq19 qq19 Sq19 Nq19 Hq19 Gq19 rfl W20 0 rfl (Nat.le_of_ble_eq_true rfl)
  obtain ⟨T23, h23, X23, e23, E23, A23, D23, -, st23⟩ := newO X20 hx hZ hown (hw _ (List.mem_of_getElem? (i := 10) rfl)) (hw _ (List.mem_of_getElem? (i := 11) rfl)) (hw _ (List.mem_of_getElem? (i := 12) rfl)) e20 (g := (mkF m 129 #[.val (.int p0), .val (.int p1), .val (.int p2), .val (.int p3), .val (.int p4), .val (.int (1 : Int32)), .val (.int (0 : Int32)), .val (.int (1 : Int32)), .val (.int mn), .val (.int mx), .val (.double (9218868437227405312 : UInt64)), .second, .val (.double (18442240474082181120 : UInt64)), .second, .val (.ref b3), .val (.ref b4), .unset, .unset, .unset] [])) rfl (hb hby at_129) (by decide) (by decide)
  obtain ⟨b23, g23⟩ : ∃ z, z = h20.size := ⟨_, rfl⟩
  rw [← g23] at A23 D23 st23
  have ne_b3_b23 : b3 ≠ b23 := Nat.ne_of_lt (Nat.lt_of_lt_of_le f21.lt (Nat.le_of_eq g23.symm))
  have ne_b4_b23 : b4 ≠ b23 := Nat.ne_of_lt (Nat.lt_of_lt_of_le f22.lt (Nat.le_of_eq g23.symm))
  have g_b23 : n0 ≤ b23 := Nat.le_trans Zs20 (Nat.le_of_eq g23.symm)
  have sz_b23 : h0.size ≤ b23 := Nat.le_trans K20.1 (Nat.le_of_eq g23.symm)
  have f24 := f21.ext E23
  have f25 := f22.ext E23
  have K23 : Keep h0 h23 [] := K20.ext E23
  have Zs23 := Nat.le_trans Zs20 E23.1
  have F23_lower : Fld Z h23 b23 "com/example/hedge/hedge/ValueBounds" "lower" "[D" .null := D23 (Or.inr (hw _ (List.mem_of_getElem? (i := 27) rfl))) (ty := (.array .double)) (by decide)
  have F23_upper : Fld Z h23 b23 "com/example/hedge/hedge/ValueBounds" "upper" "[D" .null := D23 (Or.inr (hw _ (List.mem_of_getElem? (i := 29) rfl))) (ty := (.array .double)) (by decide)
  have F23_strategy : Fld Z h23 b23 "com/example/hedge/hedge/ValueBounds" "strategy" "[[I" .null := D23 (Or.inr (hw _ (List.mem_of_getElem? (i := 31) rfl))) (ty := (.array (.array .int))) (by decide)
  obtain ⟨T26, h26, k26, X26, e26, E26, A26, B26, st26⟩ := newPE X23 hx hZ (hw _ (List.mem_of_getElem? (i := 13) rfl)) e23 (g := (mkF m 138 #[.val (.int p0), .val (.int p1), .val (.int p2), .val (.int p3), .val (.int p4), .val (.int (1 : Int32)), .val (.int (0 : Int32)), .val (.int (1 : Int32)), .val (.int mn), .val (.int mx), .val (.double (9218868437227405312 : UInt64)), .second, .val (.double (18442240474082181120 : UInt64)), .second, .val (.ref b3), .val (.ref b4), .unset, .unset, .unset] [(.int (2 : Int32)), (.ref b4), (.ref b3), (.ref b23), (.ref b23)])) rfl (hb hby at_138) rfl (by decide) (cap := 2) (by decide) (by decide) (by decide) (by decide) (ad := "[I") rfl
  obtain ⟨b26, g26⟩ : ∃ z, z = h23.size := ⟨_, rfl⟩
  rw [← g26] at A26 st26 B26
  have ne_b3_b26 : b3 ≠ b26 := Nat.ne_of_lt (Nat.lt_of_lt_of_le f24.lt (Nat.le_of_eq g26.symm))
  have ne_b4_b26 : b4 ≠ b26 := Nat.ne_of_lt (Nat.lt_of_lt_of_le f25.lt (Nat.le_of_eq g26.symm))
  have ne_b23_b26 : b23 ≠ b26 := Nat.ne_of_lt (Nat.lt_of_lt_of_le A23.lt (Nat.le_of_eq g26.symm))
  have g_b26 : n0 ≤ b26 := Nat.le_trans Zs23 (Nat.le_of_eq g26.symm)
  have sz_b26 : h0.size ≤ b26 := Nat.le_trans K23.1 (Nat.le_of_eq g26.symm)
  have f27 := f24.ext E26
  have f28 := f25.ext E26
  have f29 := A23.ext E26
  have f30 := F23_lower.ext E26
  have f31 := F23_upper.ext E26
  have f32 := F23_strategy.ext E26
  have K26 : Keep h0 h26 [] := K23.ext E26
  have Zs26 := Nat.le_trans Zs23 E26.1
  have V26 : Arv Z h26 b26 k26 .int (2 : Int32) [(.int (0 : Int32)), (.int (0 : Int32))] (.int (0 : Int32)) := (Arv.new A26 (by decide)).pad (pad_rep [] (.int (0 : Int32)) 2)
  obtain ⟨cq33, Arq33, qq33, Sq33, Nq33, Hq33, Gq33⟩ := id V26
  obtain ⟨T34, h34, X34, e34, W34, st34⟩ := stI X26 hx hZ e26 Arq33 (j := (0 : Int32)) (inb_of Sq33 ⟨by decide, by decide⟩) (g := (mkF m 143 #[.val (.int p0), .val (.int p1), .val (.int p2), .val (.int p3), .val (.int p4), .val (.int (1 : Int32)), .val (.int (0 : Int32)), .val (.int (1 : Int32)), .val (.int mn), .val (.int mx), .val (.double (9218868437227405312 : UInt64)), .second, .val (.double (18442240474082181120 : UInt64)), .second, .val (.ref b3), .val (.ref b4), .unset, .unset, .unset] [(.int (-1 : Int32)), (.int (0 : Int32)), (.ref b26), (.ref b26), (.ref b4), (.ref b3), (.ref b23), (.ref b23)])) rfl rfl (hb hby at_143)
  have f35 := f27.other W34 ne_b3_b26
  have f36 := f28.other W34 ne_b4_b26
  have f37 := f29.wr W34
  have f38 := f30.other W34 (Or.inl ne_b23_b26)
  have f39 := f31.other W34 (Or.inl ne_b23_b26)
  have f40 := f32.other W34 (Or.inl ne_b23_b26)
  have f41 := B26.wr W34
  have K34 : Keep h0 h34 [] := K26.wr W34 (Or.inr sz_b26)
  have Zs34 := Nat.le_trans Zs26 (Keep.of_wr W34).1
  have N34 := Fr.snoc X34 N20 g_b26
  have f42 : Arv Z h34 b26 k26 .int (2 : Int32) [(.int (-1 : Int32)), (.int (0 : Int32))] (.int (0 : Int32)) := Arv.set Arq33 qq33 Sq33 Nq33 Hq33 Gq33 rfl W34 0 rfl (Nat.le_of_ble_eq_true rfl)
  obtain ⟨cq43, Arq43, qq43, Sq43, Nq43, Hq43, Gq43⟩ := id f42
  obtain ⟨T44, h44, X44, e44, W44, st44⟩ := stI X34 hx hZ e34 Arq43 (j := (1 : Int32)) (inb_of Sq43 ⟨by decide, by decide⟩) (g := (mkF m 147 #[.val (.int p0), .val (.int p1), .val (.int p2), .val (.int p3), .val (.int p4), .val (.int (1 : Int32)), .val (.int (0 : Int32)), .val (.int (1 : Int32)), .val (.int mn), .val (.int mx), .val (.double (9218868437227405312 : UInt64)), .second, .val (.double (18442240474082181120 : UInt64)), .second, .val (.ref b3), .val (.ref b4), .unset, .unset, .unset] [(.int (-1 : Int32)), (.int (1 : Int32)), (.ref b26), (.ref b26), (.ref b4), (.ref b3), (.ref b23), (.ref b23)])) rfl rfl (hb hby at_147)
  have f45 := f35.other W44 ne_b3_b26
  have f46 := f36.other W44 ne_b4_b26
  have f47 := f37.wr W44
  have f48 := f38.other W44 (Or.inl ne_b23_b26)
  have f49 := f39.other W44 (Or.inl ne_b23_b26)
  have f50 := f40.other W44 (Or.inl ne_b23_b26)
  have f51 := f41.wr W44
  have K44 : Keep h0 h44 [] := K34.wr W44 (Or.inr sz_b26)
  have Zs44 := Nat.le_trans Zs34 (Keep.of_wr W44).1
  have N44 := Fr.snoc X44 N34 g_b26
  have f52 : Arv Z h44 b26 k26 .int (2 : Int32) [(.int (-1 : Int32)), (.int (-1 : Int32))] (.int (0 : Int32)) := Arv.set Arq43 qq43 Sq43 Nq43 Hq43 Gq43 rfl W44 1 rfl (Nat.le_of_ble_eq_true rfl)
  obtain ⟨_, _, ⟨T53, L53, k53, n53⟩, -, X53, ⟨Lc53, hQ53, l53, y53, z53⟩, st53⟩ := X44.specialBack hx (y := (⟨"com/example/hedge/hedge/ValueBounds", "<init>", "([D[D[I)V"⟩ : MethodName)) rfl hown (mvT hZ (hw _ (List.mem_of_getElem? (i := 14) rfl))) (mvT hZ (hw _ (List.mem_of_getElem? (i := 15) rfl))) (mvT hZ (hw _ (List.mem_of_getElem? (i := 16) rfl))) (by decide) (backOf (W := 1) (rm3 l Z a0 hw [] b23 b3 b4 b26 h44 n0 Zs44 f47 g_b23 f48 f49 f50 f51) hZ (hw _ (List.mem_of_getElem? (i := 16) rfl)) (hw _ (List.mem_of_getElem? (i := 12) rfl)) (by decide) (by decide)) (g := (mkF m 148 #[.val (.int p0), .val (.int p1), .val (.int p2), .val (.int p3), .val (.int p4), .val (.int (1 : Int32)), .val (.int (0 : Int32)), .val (.int (1 : Int32)), .val (.int mn), .val (.int mx), .val (.double (9218868437227405312 : UInt64)), .second, .val (.double (18442240474082181120 : UInt64)), .second, .val (.ref b3), .val (.ref b4), .unset, .unset, .unset] [(.ref b26), (.ref b4), (.ref b3), (.ref b23), (.ref b23)])) rfl (by rw [hml]; rfl) (Steps.refl _) (a := b23) (argsL := [(.ref b3), (.ref b4), (.ref b26)]) (rest := [(.ref b23)]) (lenOf pd_2 rfl) rfl (by show 2 * 0 + _ ≤ _; exact Nat.le_of_eq rfl) (hb hby at_148) (fun _ _ => ⟨rfl, e44, (by decide : 4 + 1 ≤ _), (by decide : 9 + 1 ≤ _)⟩)
  dsimp only [Pt.U, Pt.locs, Pt.cells, Pt.slots] at X53 l53 y53 z53 st53 hQ53
  subst l53 y53 z53
  obtain ⟨rfl, N53q, K53q, f54, f55, f56⟩ := hQ53
  have N53 := Fr.app N44 N53q
  have f57 := f45.keep K53q (own_niS ne_b3_b23 own_ni0)
  have f58 := f46.keep K53q (own_niS ne_b4_b23 own_ni0)
  have f59 := f47.keep K53q
  have f60 := f52.keep K53q (own_niS (Ne.symm ne_b23_b26) own_ni0)
  have f61 := f51.keep K53q
  have K53 : Keep h0 T53.heap [] := K44.trans K53q (own_allS (Or.inr sz_b23) own_all0)
  have Zs53 := Nat.le_trans Zs44 K53q.1
  obtain ⟨cq62, kq62, q62a, q62b, q62c⟩ := isOf hZ rfl f54
  obtain ⟨_, _, ⟨T62, L62, k62, n62⟩, -, X62, ⟨Lc62, hQ62, l62, y62, z62⟩, st62⟩ := X53.virtualBack hx (y := (⟨"com/example/hedge/hedge/ValueBounds", "value", "(I)D"⟩ : MethodName)) (z := (⟨"com/example/hedge/hedge/ValueBounds", "value", "(I)D"⟩ : MethodName)) hown (mvT hZ (hw _ (List.mem_of_getElem? (i := 32) rfl))) (mvT hZ (hw _ (List.mem_of_getElem? (i := 33) rfl))) (notFace_of_selects (args := #[]) (mvT hZ (hw _ (List.mem_of_getElem? (i := 35) rfl)))) (mvT hZ (hw _ (List.mem_of_getElem? (i := 35) rfl))) (mvT hZ (hw _ (List.mem_of_getElem? (i := 34) rfl))) (by decide) (backOf (W := 0) (rm6_1i l Z a0 hw [] b23 b3 b4 k3 k4 (FP.i2d p4) (FP.i2d mn) ub (9218868437227405312 : UInt64) T53.heap n0 Zs53 f55 f56 f57 f58 hd9_157) hZ (hw _ (List.mem_of_getElem? (i := 36) rfl)) (hw _ (List.mem_of_getElem? (i := 12) rfl)) (by decide) (by decide)) q62a q62c (g := (mkF m 157 #[.val (.int p0), .val (.int p1), .val (.int p2), .val (.int p3), .val (.int p4), .val (.int (1 : Int32)), .val (.int (0 : Int32)), .val (.int (1 : Int32)), .val (.int mn), .val (.int mx), .val (.double (9218868437227405312 : UInt64)), .second, .val (.double (18442240474082181120 : UInt64)), .second, .val (.ref b3), .val (.ref b4), .val (.ref b23), .unset, .unset] [(.int (1 : Int32)), (.ref b23)])) rfl (by rw [hml]; rfl) (Steps.refl _) (argsL := [(.int (1 : Int32))]) (rest := []) (lenOf pd_3 rfl) rfl (by show 2 * 0 + _ ≤ _; exact Nat.le_of_eq rfl) (hb hby at_157) (fun _ _ => ⟨rfl, rfl, (by decide : 5 + 0 ≤ _), (by decide : 10 + 0 ≤ _)⟩)
  dsimp only [Pt.U, Pt.locs, Pt.cells, Pt.slots] at X62 l62 y62 z62 st62 hQ62
  subst l62 y62 z62
  obtain ⟨rfl, N62q, eh62⟩ := hQ62
  have N62 := Fr.app N53 N62q
  have e62 : T62.heap = T53.heap := eh62
  obtain ⟨fs, hr, hrun, hended, hW, hsame⟩ := X62.leave (v := some (.int (1 : Int32))) (fun h => by rw [Bd.returns] at h; cases h)
  refine ⟨_, _, pre0 _ ?_, hrun, hended, _, _, rfl, ?_, ⟨_, rfl⟩, hW, hsame.mono (by decide) (by decide)⟩
  · show Steps p.tables e below (s₁.setTop (mkF m 0 #[.val (.int p0), .val (.int p1), .val (.int p2), .val (.int p3), .val (.int p4), .unset, .unset, .unset, .unset, .unset, .unset, .unset, .unset, .unset, .unset, .unset, .unset, .unset, .unset] [])) _
    refine XS.iloadN X0.here hx rfl (hb hby at_0) rfl ?_
    show Steps p.tables e below (s₁.setTop (mkF m 1 #[.val (.int p0), .val (.int p1), .val (.int p2), .val (.int p3), .val (.int p4), .unset, .unset, .unset, .unset, .unset, .unset, .unset, .unset, .unset, .unset, .unset, .unset, .unset, .unset] [(.int p3)])) _
    refine XS.iconst X0.here hx rfl (hb hby at_1) ?_
    show Steps p.tables e below (s₁.setTop (mkF m 2 #[.val (.int p0), .val (.int p1), .val (.int p2), .val (.int p3), .val (.int p4), .unset, .unset, .unset, .unset, .unset, .unset, .unset, .unset, .unset, .unset, .unset, .unset, .unset, .unset] [(.int (1 : Int32)), (.int p3)])) _
    refine XS.iand X0.here hx rfl (hb hby at_2) rfl ?_
    show Steps p.tables e below (s₁.setTop (mkF m 3 #[.val (.int p0), .val (.int p1), .val (.int p2), .val (.int p3), .val (.int p4), .unset, .unset, .unset, .unset, .unset, .unset, .unset, .unset, .unset, .unset, .unset, .unset, .unset, .unset] [(.int (p3 &&& (1 : Int32)))])) _
    rw [hv2]
    show Steps p.tables e below (s₁.setTop (mkF m 3 #[.val (.int p0), .val (.int p1), .val (.int p2), .val (.int p3), .val (.int p4), .unset, .unset, .unset, .unset, .unset, .unset, .unset, .unset, .unset, .unset, .unset, .unset, .unset, .unset] [(.int (1 : Int32))])) _
    refine XS.istore X0.here hx rfl (hb hby at_3) rfl (l' := #[.val (.int p0), .val (.int p1), .val (.int p2), .val (.int p3), .val (.int p4), .val (.int (1 : Int32)), .unset, .unset, .unset, .unset, .unset, .unset, .unset, .unset, .unset, .unset, .unset, .unset, .unset]) rfl ?_
    show Steps p.tables e below (s₁.setTop (mkF m 5 #[.val (.int p0), .val (.int p1), .val (.int p2), .val (.int p3), .val (.int p4), .val (.int (1 : Int32)), .unset, .unset, .unset, .unset, .unset, .unset, .unset, .unset, .unset, .unset, .unset, .unset, .unset] [])) _
    refine XS.iconst X0.here hx rfl (hb hby at_5) ?_
    show Steps p.tables e below (s₁.setTop (mkF m 6 #[.val (.int p0), .val (.int p1), .val (.int p2), .val (.int p3), .val (.int p4), .val (.int (1 : Int32)), .unset, .unset, .unset, .unset, .unset, .unset, .unset, .unset, .unset, .unset, .unset, .unset, .unset] [(.int (1 : Int32))])) _
    refine XS.iload X0.here hx rfl (hb hby at_6) rfl ?_
    show Steps p.tables e below (s₁.setTop (mkF m 8 #[.val (.int p0), .val (.int p1), .val (.int p2), .val (.int p3), .val (.int p4), .val (.int (1 : Int32)), .unset, .unset, .unset, .unset, .unset, .unset, .unset, .unset, .unset, .unset, .unset, .unset, .unset] [(.int (1 : Int32)), (.int (1 : Int32))])) _
    refine XS.isub X0.here hx rfl (hb hby at_8) rfl ?_
    show Steps p.tables e below (s₁.setTop (mkF m 9 #[.val (.int p0), .val (.int p1), .val (.int p2), .val (.int p3), .val (.int p4), .val (.int (1 : Int32)), .unset, .unset, .unset, .unset, .unset, .unset, .unset, .unset, .unset, .unset, .unset, .unset, .unset] [(.int ((1 : Int32) - (1 : Int32)))])) _
    rw [show ((1 : Int32) - (1 : Int32)) = (0 : Int32) by decide]
    show Steps p.tables e below (s₁.setTop (mkF m 9 #[.val (.int p0), .val (.int p1), .val (.int p2), .val (.int p3), .val (.int p4), .val (.int (1 : Int32)), .unset, .unset, .unset, .unset, .unset, .unset, .unset, .unset, .unset, .unset, .unset, .unset, .unset] [(.int (0 : Int32))])) _
    refine XS.istore X0.here hx rfl (hb hby at_9) rfl (l' := #[.val (.int p0), .val (.int p1), .val (.int p2), .val (.int p3), .val (.int p4), .val (.int (1 : Int32)), .val (.int (0 : Int32)), .unset, .unset, .unset, .unset, .unset, .unset, .unset, .unset, .unset, .unset, .unset, .unset]) rfl ?_
    show Steps p.tables e below (s₁.setTop (mkF m 11 #[.val (.int p0), .val (.int p1), .val (.int p2), .val (.int p3), .val (.int p4), .val (.int (1 : Int32)), .val (.int (0 : Int32)), .unset, .unset, .unset, .unset, .unset, .unset, .unset, .unset, .unset, .unset, .unset, .unset] [])) _
    refine XS.iloadN X0.here hx rfl (hb hby at_11) rfl ?_
    show Steps p.tables e below (s₁.setTop (mkF m 12 #[.val (.int p0), .val (.int p1), .val (.int p2), .val (.int p3), .val (.int p4), .val (.int (1 : Int32)), .val (.int (0 : Int32)), .unset, .unset, .unset, .unset, .unset, .unset, .unset, .unset, .unset, .unset, .unset, .unset] [(.int p2)])) _
    refine XS.iconst X0.here hx rfl (hb hby at_12) ?_
    show Steps p.tables e below (s₁.setTop (mkF m 13 #[.val (.int p0), .val (.int p1), .val (.int p2), .val (.int p3), .val (.int p4), .val (.int (1 : Int32)), .val (.int (0 : Int32)), .unset, .unset, .unset, .unset, .unset, .unset, .unset, .unset, .unset, .unset, .unset, .unset] [(.int (3 : Int32)), (.int p2)])) _
    refine XS.iand X0.here hx rfl (hb hby at_13) rfl ?_
    show Steps p.tables e below (s₁.setTop (mkF m 14 #[.val (.int p0), .val (.int p1), .val (.int p2), .val (.int p3), .val (.int p4), .val (.int (1 : Int32)), .val (.int (0 : Int32)), .unset, .unset, .unset, .unset, .unset, .unset, .unset, .unset, .unset, .unset, .unset, .unset] [(.int (p2 &&& (3 : Int32)))])) _
    rw [hv13]
    show Steps p.tables e below (s₁.setTop (mkF m 14 #[.val (.int p0), .val (.int p1), .val (.int p2), .val (.int p3), .val (.int p4), .val (.int (1 : Int32)), .val (.int (0 : Int32)), .unset, .unset, .unset, .unset, .unset, .unset, .unset, .unset, .unset, .unset, .unset, .unset] [(.int (1 : Int32))])) _
    refine XS.istore X0.here hx rfl (hb hby at_14) rfl (l' := #[.val (.int p0), .val (.int p1), .val (.int p2), .val (.int p3), .val (.int p4), .val (.int (1 : Int32)), .val (.int (0 : Int32)), .val (.int (1 : Int32)), .unset, .unset, .unset, .unset, .unset, .unset, .unset, .unset, .unset, .unset, .unset]) rfl ?_
    show Steps p.tables e below (s₁.setTop (mkF m 16 #[.val (.int p0), .val (.int p1), .val (.int p2), .val (.int p3), .val (.int p4), .val (.int (1 : Int32)), .val (.int (0 : Int32)), .val (.int (1 : Int32)), .unset, .unset, .unset, .unset, .unset, .unset, .unset, .unset, .unset, .unset, .unset] [])) _
    refine XS.iloadN X0.here hx rfl (hb hby at_16) rfl ?_
    show Steps p.tables e below (s₁.setTop (mkF m 17 #[.val (.int p0), .val (.int p1), .val (.int p2), .val (.int p3), .val (.int p4), .val (.int (1 : Int32)), .val (.int (0 : Int32)), .val (.int (1 : Int32)), .unset, .unset, .unset, .unset, .unset, .unset, .unset, .unset, .unset, .unset, .unset] [(.int p0)])) _
    refine XS.iloadN X0.here hx rfl (hb hby at_17) rfl ?_
    show Steps p.tables e below (s₁.setTop (mkF m 18 #[.val (.int p0), .val (.int p1), .val (.int p2), .val (.int p3), .val (.int p4), .val (.int (1 : Int32)), .val (.int (0 : Int32)), .val (.int (1 : Int32)), .unset, .unset, .unset, .unset, .unset, .unset, .unset, .unset, .unset, .unset, .unset] [(.int p1), (.int p0)])) _
    refine st1 _ ?_
    show Steps p.tables e below (T1.setTop (mkF m 21 #[.val (.int p0), .val (.int p1), .val (.int p2), .val (.int p3), .val (.int p4), .val (.int (1 : Int32)), .val (.int (0 : Int32)), .val (.int (1 : Int32)), .unset, .unset, .unset, .unset, .unset, .unset, .unset, .unset, .unset, .unset, .unset] [(.int mn)])) _
    refine XS.istore X1.here hx rfl (hb hby at_21) rfl (l' := #[.val (.int p0), .val (.int p1), .val (.int p2), .val (.int p3), .val (.int p4), .val (.int (1 : Int32)), .val (.int (0 : Int32)), .val (.int (1 : Int32)), .val (.int mn), .unset, .unset, .unset, .unset, .unset, .unset, .unset, .unset, .unset, .unset]) rfl ?_
    show Steps p.tables e below (T1.setTop (mkF m 23 #[.val (.int p0), .val (.int p1), .val (.int p2), .val (.int p3), .val (.int p4), .val (.int (1 : Int32)), .val (.int (0 : Int32)), .val (.int (1 : Int32)), .val (.int mn), .unset, .unset, .unset, .unset, .unset, .unset, .unset, .unset, .unset, .unset] [])) _
    refine XS.iloadN X1.here hx rfl (hb hby at_23) rfl ?_
    show Steps p.tables e below (T1.setTop (mkF m 24 #[.val (.int p0), .val (.int p1), .val (.int p2), .val (.int p3), .val (.int p4), .val (.int (1 : Int32)), .val (.int (0 : Int32)), .val (.int (1 : Int32)), .val (.int mn), .unset, .unset, .unset, .unset, .unset, .unset, .unset, .unset, .unset, .unset] [(.int p0)])) _
    refine XS.iloadN X1.here hx rfl (hb hby at_24) rfl ?_
    show Steps p.tables e below (T1.setTop (mkF m 25 #[.val (.int p0), .val (.int p1), .val (.int p2), .val (.int p3), .val (.int p4), .val (.int (1 : Int32)), .val (.int (0 : Int32)), .val (.int (1 : Int32)), .val (.int mn), .unset, .unset, .unset, .unset, .unset, .unset, .unset, .unset, .unset, .unset] [(.int p1), (.int p0)])) _
    refine st2 _ ?_
    show Steps p.tables e below (T2.setTop (mkF m 28 #[.val (.int p0), .val (.int p1), .val (.int p2), .val (.int p3), .val (.int p4), .val (.int (1 : Int32)), .val (.int (0 : Int32)), .val (.int (1 : Int32)), .val (.int mn), .unset, .unset, .unset, .unset, .unset, .unset, .unset, .unset, .unset, .unset] [(.int mx)])) _
    refine XS.istore X2.here hx rfl (hb hby at_28) rfl (l' := #[.val (.int p0), .val (.int p1), .val (.int p2), .val (.int p3), .val (.int p4), .val (.int (1 : Int32)), .val (.int (0 : Int32)), .val (.int (1 : Int32)), .val (.int mn), .val (.int mx), .unset, .unset, .unset, .unset, .unset, .unset, .unset, .unset, .unset]) rfl ?_
    show Steps p.tables e below (T2.setTop (mkF m 30 #[.val (.int p0), .val (.int p1), .val (.int p2), .val (.int p3), .val (.int p4), .val (.int (1 : Int32)), .val (.int (0 : Int32)), .val (.int (1 : Int32)), .val (.int mn), .val (.int mx), .unset, .unset, .unset, .unset, .unset, .unset, .unset, .unset, .unset] [])) _
    refine X2.ldc2DoubleC hx hown (mvT hZ (hw _ (List.mem_of_getElem? (i := 7) rfl))) (g := (mkF m 30 #[.val (.int p0), .val (.int p1), .val (.int p2), .val (.int p3), .val (.int p4), .val (.int (1 : Int32)), .val (.int (0 : Int32)), .val (.int (1 : Int32)), .val (.int mn), .val (.int mx), .unset, .unset, .unset, .unset, .unset, .unset, .unset, .unset, .unset] [])) rfl (hb hby at_30) _ ?_
    show Steps p.tables e below (T2.setTop (mkF m 33 #[.val (.int p0), .val (.int p1), .val (.int p2), .val (.int p3), .val (.int p4), .val (.int (1 : Int32)), .val (.int (0 : Int32)), .val (.int (1 : Int32)), .val (.int mn), .val (.int mx), .unset, .unset, .unset, .unset, .unset, .unset, .unset, .unset, .unset] [(.double (9218868437227405312 : UInt64))])) _
    refine XS.dstore X2.here hx rfl (hb hby at_33) rfl (l' := #[.val (.int p0), .val (.int p1), .val (.int p2), .val (.int p3), .val (.int p4), .val (.int (1 : Int32)), .val (.int (0 : Int32)), .val (.int (1 : Int32)), .val (.int mn), .val (.int mx), .val (.double (9218868437227405312 : UInt64)), .second, .unset, .unset, .unset, .unset, .unset, .unset, .unset]) rfl ?_
    show Steps p.tables e below (T2.setTop (mkF m 35 #[.val (.int p0), .val (.int p1), .val (.int p2), .val (.int p3), .val (.int p4), .val (.int (1 : Int32)), .val (.int (0 : Int32)), .val (.int (1 : Int32)), .val (.int mn), .val (.int mx), .val (.double (9218868437227405312 : UInt64)), .second, .unset, .unset, .unset, .unset, .unset, .unset, .unset] [])) _
    refine X2.ldc2DoubleC hx hown (mvT hZ (hw _ (List.mem_of_getElem? (i := 8) rfl))) (g := (mkF m 35 #[.val (.int p0), .val (.int p1), .val (.int p2), .val (.int p3), .val (.int p4), .val (.int (1 : Int32)), .val (.int (0 : Int32)), .val (.int (1 : Int32)), .val (.int mn), .val (.int mx), .val (.double (9218868437227405312 : UInt64)), .second, .unset, .unset, .unset, .unset, .unset, .unset, .unset] [])) rfl (hb hby at_35) _ ?_
    show Steps p.tables e below (T2.setTop (mkF m 38 #[.val (.int p0), .val (.int p1), .val (.int p2), .val (.int p3), .val (.int p4), .val (.int (1 : Int32)), .val (.int (0 : Int32)), .val (.int (1 : Int32)), .val (.int mn), .val (.int mx), .val (.double (9218868437227405312 : UInt64)), .second, .unset, .unset, .unset, .unset, .unset, .unset, .unset] [(.double (18442240474082181120 : UInt64))])) _
    refine XS.dstore X2.here hx rfl (hb hby at_38) rfl (l' := #[.val (.int p0), .val (.int p1), .val (.int p2), .val (.int p3), .val (.int p4), .val (.int (1 : Int32)), .val (.int (0 : Int32)), .val (.int (1 : Int32)), .val (.int mn), .val (.int mx), .val (.double (9218868437227405312 : UInt64)), .second, .val (.double (18442240474082181120 : UInt64)), .second, .unset, .unset, .unset, .unset, .unset]) rfl ?_
    show Steps p.tables e below (T2.setTop (mkF m 40 #[.val (.int p0), .val (.int p1), .val (.int p2), .val (.int p3), .val (.int p4), .val (.int (1 : Int32)), .val (.int (0 : Int32)), .val (.int (1 : Int32)), .val (.int mn), .val (.int mx), .val (.double (9218868437227405312 : UInt64)), .second, .val (.double (18442240474082181120 : UInt64)), .second, .unset, .unset, .unset, .unset, .unset] [])) _
    refine XS.iconst X2.here hx rfl (hb hby at_40) ?_
    show Steps p.tables e below (T2.setTop (mkF m 41 #[.val (.int p0), .val (.int p1), .val (.int p2), .val (.int p3), .val (.int p4), .val (.int (1 : Int32)), .val (.int (0 : Int32)), .val (.int (1 : Int32)), .val (.int mn), .val (.int mx), .val (.double (9218868437227405312 : UInt64)), .second, .val (.double (18442240474082181120 : UInt64)), .second, .unset, .unset, .unset, .unset, .unset] [(.int (2 : Int32))])) _
    refine st3 _ ?_
    show Steps p.tables e below (T3.setTop (mkF m 43 #[.val (.int p0), .val (.int p1), .val (.int p2), .val (.int p3), .val (.int p4), .val (.int (1 : Int32)), .val (.int (0 : Int32)), .val (.int (1 : Int32)), .val (.int mn), .val (.int mx), .val (.double (9218868437227405312 : UInt64)), .second, .val (.double (18442240474082181120 : UInt64)), .second, .unset, .unset, .unset, .unset, .unset] [(.ref b3)])) _
    refine XS.astore X3.here hx rfl (hb hby at_43) rfl rfl (l' := #[.val (.int p0), .val (.int p1), .val (.int p2), .val (.int p3), .val (.int p4), .val (.int (1 : Int32)), .val (.int (0 : Int32)), .val (.int (1 : Int32)), .val (.int mn), .val (.int mx), .val (.double (9218868437227405312 : UInt64)), .second, .val (.double (18442240474082181120 : UInt64)), .second, .val (.ref b3), .unset, .unset, .unset, .unset]) rfl ?_
    show Steps p.tables e below (T3.setTop (mkF m 45 #[.val (.int p0), .val (.int p1), .val (.int p2), .val (.int p3), .val (.int p4), .val (.int (1 : Int32)), .val (.int (0 : Int32)), .val (.int (1 : Int32)), .val (.int mn), .val (.int mx), .val (.double (9218868437227405312 : UInt64)), .second, .val (.double (18442240474082181120 : UInt64)), .second, .val (.ref b3), .unset, .unset, .unset, .unset] [])) _
    refine XS.iconst X3.here hx rfl (hb hby at_45) ?_
    show Steps p.tables e below (T3.setTop (mkF m 46 #[.val (.int p0), .val (.int p1), .val (.int p2), .val (.int p3), .val (.int p4), .val (.int (1 : Int32)), .val (.int (0 : Int32)), .val (.int (1 : Int32)), .val (.int mn), .val (.int mx), .val (.double (9218868437227405312 : UInt64)), .second, .val (.double (18442240474082181120 : UInt64)), .second, .val (.ref b3), .unset, .unset, .unset, .unset] [(.int (2 : Int32))])) _
    refine st4 _ ?_
    show Steps p.tables e below (T4.setTop (mkF m 48 #[.val (.int p0), .val (.int p1), .val (.int p2), .val (.int p3), .val (.int p4), .val (.int (1 : Int32)), .val (.int (0 : Int32)), .val (.int (1 : Int32)), .val (.int mn), .val (.int mx), .val (.double (9218868437227405312 : UInt64)), .second, .val (.double (18442240474082181120 : UInt64)), .second, .val (.ref b3), .unset, .unset, .unset, .unset] [(.ref b4)])) _
    refine XS.astore X4.here hx rfl (hb hby at_48) rfl rfl (l' := #[.val (.int p0), .val (.int p1), .val (.int p2), .val (.int p3), .val (.int p4), .val (.int (1 : Int32)), .val (.int (0 : Int32)), .val (.int (1 : Int32)), .val (.int mn), .val (.int mx), .val (.double (9218868437227405312 : UInt64)), .second, .val (.double (18442240474082181120 : UInt64)), .second, .val (.ref b3), .val (.ref b4), .unset, .unset, .unset]) rfl ?_
    show Steps p.tables e below (T4.setTop (mkF m 50 #[.val (.int p0), .val (.int p1), .val (.int p2), .val (.int p3), .val (.int p4), .val (.int (1 : Int32)), .val (.int (0 : Int32)), .val (.int (1 : Int32)), .val (.int mn), .val (.int mx), .val (.double (9218868437227405312 : UInt64)), .second, .val (.double (18442240474082181120 : UInt64)), .second, .val (.ref b3), .val (.ref b4), .unset, .unset, .unset] [])) _
    refine XS.aload X4.here hx rfl (hb hby at_50) rfl rfl ?_
    show Steps p.tables e below (T4.setTop (mkF m 52 #[.val (.int p0), .val (.int p1), .val (.int p2), .val (.int p3), .val (.int p4), .val (.int (1 : Int32)), .val (.int (0 : Int32)), .val (.int (1 : Int32)), .val (.int mn), .val (.int mx), .val (.double (9218868437227405312 : UInt64)), .second, .val (.double (18442240474082181120 : UInt64)), .second, .val (.ref b3), .val (.ref b4), .unset, .unset, .unset] [(.ref b3)])) _
    refine XS.iload X4.here hx rfl (hb hby at_52) rfl ?_
    show Steps p.tables e below (T4.setTop (mkF m 54 #[.val (.int p0), .val (.int p1), .val (.int p2), .val (.int p3), .val (.int p4), .val (.int (1 : Int32)), .val (.int (0 : Int32)), .val (.int (1 : Int32)), .val (.int mn), .val (.int mx), .val (.double (9218868437227405312 : UInt64)), .second, .val (.double (18442240474082181120 : UInt64)), .second, .val (.ref b3), .val (.ref b4), .unset, .unset, .unset] [(.int (1 : Int32)), (.ref b3)])) _
    refine XS.iload X4.here hx rfl (hb hby at_54) rfl ?_
    show Steps p.tables e below (T4.setTop (mkF m 56 #[.val (.int p0), .val (.int p1), .val (.int p2), .val (.int p3), .val (.int p4), .val (.int (1 : Int32)), .val (.int (0 : Int32)), .val (.int (1 : Int32)), .val (.int mn), .val (.int mx), .val (.double (9218868437227405312 : UInt64)), .second, .val (.double (18442240474082181120 : UInt64)), .second, .val (.ref b3), .val (.ref b4), .unset, .unset, .unset] [(.int (1 : Int32)), (.int (1 : Int32)), (.ref b3)])) _
    refine XS.iconst X4.here hx rfl (hb hby at_56) ?_
    show Steps p.tables e below (T4.setTop (mkF m 57 #[.val (.int p0), .val (.int p1), .val (.int p2), .val (.int p3), .val (.int p4), .val (.int (1 : Int32)), .val (.int (0 : Int32)), .val (.int (1 : Int32)), .val (.int mn), .val (.int mx), .val (.double (9218868437227405312 : UInt64)), .second, .val (.double (18442240474082181120 : UInt64)), .second, .val (.ref b3), .val (.ref b4), .unset, .unset, .unset] [(.int (2 : Int32)), (.int (1 : Int32)), (.int (1 : Int32)), (.ref b3)])) _
    refine XS.icmpNo X4.here hx rfl (hb hby at_57) rfl (feq (by decide : ¬ ((1 : Int32) = (2 : Int32)))).1 ?_
    show Steps p.tables e below (T4.setTop (mkF m 60 #[.val (.int p0), .val (.int p1), .val (.int p2), .val (.int p3), .val (.int p4), .val (.int (1 : Int32)), .val (.int (0 : Int32)), .val (.int (1 : Int32)), .val (.int mn), .val (.int mx), .val (.double (9218868437227405312 : UInt64)), .second, .val (.double (18442240474082181120 : UInt64)), .second, .val (.ref b3), .val (.ref b4), .unset, .unset, .unset] [(.int (1 : Int32)), (.ref b3)])) _
    refine XS.iload X4.here hx rfl (hb hby at_60) rfl ?_
    show Steps p.tables e below (T4.setTop (mkF m 62 #[.val (.int p0), .val (.int p1), .val (.int p2), .val (.int p3), .val (.int p4), .val (.int (1 : Int32)), .val (.int (0 : Int32)), .val (.int (1 : Int32)), .val (.int mn), .val (.int mx), .val (.double (9218868437227405312 : UInt64)), .second, .val (.double (18442240474082181120 : UInt64)), .second, .val (.ref b3), .val (.ref b4), .unset, .unset, .unset] [(.int (1 : Int32)), (.int (1 : Int32)), (.ref b3)])) _
    refine XS.iconst X4.here hx rfl (hb hby at_62) ?_
    show Steps p.tables e below (T4.setTop (mkF m 63 #[.val (.int p0), .val (.int p1), .val (.int p2), .val (.int p3), .val (.int p4), .val (.int (1 : Int32)), .val (.int (0 : Int32)), .val (.int (1 : Int32)), .val (.int mn), .val (.int mx), .val (.double (9218868437227405312 : UInt64)), .second, .val (.double (18442240474082181120 : UInt64)), .second, .val (.ref b3), .val (.ref b4), .unset, .unset, .unset] [(.int (3 : Int32)), (.int (1 : Int32)), (.int (1 : Int32)), (.ref b3)])) _
    refine XS.icmpYes X4.here hx rfl (pc0 := 63) (pc' := 71) rfl (hb hby at_63) rfl (feq (by decide : ¬ ((1 : Int32) = (3 : Int32)))).2 (by decide) (by decide) ?_
    show Steps p.tables e below (T4.setTop (mkF m 71 #[.val (.int p0), .val (.int p1), .val (.int p2), .val (.int p3), .val (.int p4), .val (.int (1 : Int32)), .val (.int (0 : Int32)), .val (.int (1 : Int32)), .val (.int mn), .val (.int mx), .val (.double (9218868437227405312 : UInt64)), .second, .val (.double (18442240474082181120 : UInt64)), .second, .val (.ref b3), .val (.ref b4), .unset, .unset, .unset] [(.int (1 : Int32)), (.ref b3)])) _
    refine XS.iload X4.here hx rfl (hb hby at_71) rfl ?_
    show Steps p.tables e below (T4.setTop (mkF m 73 #[.val (.int p0), .val (.int p1), .val (.int p2), .val (.int p3), .val (.int p4), .val (.int (1 : Int32)), .val (.int (0 : Int32)), .val (.int (1 : Int32)), .val (.int mn), .val (.int mx), .val (.double (9218868437227405312 : UInt64)), .second, .val (.double (18442240474082181120 : UInt64)), .second, .val (.ref b3), .val (.ref b4), .unset, .unset, .unset] [(.int mn), (.int (1 : Int32)), (.ref b3)])) _
    refine XS.i2dS X4.here hx rfl (hb hby at_73) rfl (v := (FP.i2d mn)) rfl ?_
    show Steps p.tables e below (T4.setTop (mkF m 74 #[.val (.int p0), .val (.int p1), .val (.int p2), .val (.int p3), .val (.int p4), .val (.int (1 : Int32)), .val (.int (0 : Int32)), .val (.int (1 : Int32)), .val (.int mn), .val (.int mx), .val (.double (9218868437227405312 : UInt64)), .second, .val (.double (18442240474082181120 : UInt64)), .second, .val (.ref b3), .val (.ref b4), .unset, .unset, .unset] [(.double (FP.i2d mn)), (.int (1 : Int32)), (.ref b3)])) _
    refine st7 _ ?_
    show Steps p.tables e below (T7.setTop (mkF m 75 #[.val (.int p0), .val (.int p1), .val (.int p2), .val (.int p3), .val (.int p4), .val (.int (1 : Int32)), .val (.int (0 : Int32)), .val (.int (1 : Int32)), .val (.int mn), .val (.int mx), .val (.double (9218868437227405312 : UInt64)), .second, .val (.double (18442240474082181120 : UInt64)), .second, .val (.ref b3), .val (.ref b4), .unset, .unset, .unset] [])) _
    refine XS.aload X7.here hx rfl (hb hby at_75) rfl rfl ?_
    show Steps p.tables e below (T7.setTop (mkF m 77 #[.val (.int p0), .val (.int p1), .val (.int p2), .val (.int p3), .val (.int p4), .val (.int (1 : Int32)), .val (.int (0 : Int32)), .val (.int (1 : Int32)), .val (.int mn), .val (.int mx), .val (.double (9218868437227405312 : UInt64)), .second, .val (.double (18442240474082181120 : UInt64)), .second, .val (.ref b3), .val (.ref b4), .unset, .unset, .unset] [(.ref b4)])) _
    refine XS.iload X7.here hx rfl (hb hby at_77) rfl ?_
    show Steps p.tables e below (T7.setTop (mkF m 79 #[.val (.int p0), .val (.int p1), .val (.int p2), .val (.int p3), .val (.int p4), .val (.int (1 : Int32)), .val (.int (0 : Int32)), .val (.int (1 : Int32)), .val (.int mn), .val (.int mx), .val (.double (9218868437227405312 : UInt64)), .second, .val (.double (18442240474082181120 : UInt64)), .second, .val (.ref b3), .val (.ref b4), .unset, .unset, .unset] [(.int (1 : Int32)), (.ref b4)])) _
    refine XS.iload X7.here hx rfl (hb hby at_79) rfl ?_
    show Steps p.tables e below (T7.setTop (mkF m 81 #[.val (.int p0), .val (.int p1), .val (.int p2), .val (.int p3), .val (.int p4), .val (.int (1 : Int32)), .val (.int (0 : Int32)), .val (.int (1 : Int32)), .val (.int mn), .val (.int mx), .val (.double (9218868437227405312 : UInt64)), .second, .val (.double (18442240474082181120 : UInt64)), .second, .val (.ref b3), .val (.ref b4), .unset, .unset, .unset] [(.int (1 : Int32)), (.int (1 : Int32)), (.ref b4)])) _
    refine XS.iconst X7.here hx rfl (hb hby at_81) ?_
    show Steps p.tables e below (T7.setTop (mkF m 82 #[.val (.int p0), .val (.int p1), .val (.int p2), .val (.int p3), .val (.int p4), .val (.int (1 : Int32)), .val (.int (0 : Int32)), .val (.int (1 : Int32)), .val (.int mn), .val (.int mx), .val (.double (9218868437227405312 : UInt64)), .second, .val (.double (18442240474082181120 : UInt64)), .second, .val (.ref b3), .val (.ref b4), .unset, .unset, .unset] [(.int (1 : Int32)), (.int (1 : Int32)), (.int (1 : Int32)), (.ref b4)])) _
    refine XS.icmpYes X7.here hx rfl (pc0 := 82) (pc' := 91) rfl (hb hby at_82) rfl (teq (by decide : (1 : Int32) = (1 : Int32))).1 (by decide) (by decide) ?_
    show Steps p.tables e below (T7.setTop (mkF m 91 #[.val (.int p0), .val (.int p1), .val (.int p2), .val (.int p3), .val (.int p4), .val (.int (1 : Int32)), .val (.int (0 : Int32)), .val (.int (1 : Int32)), .val (.int mn), .val (.int mx), .val (.double (9218868437227405312 : UInt64)), .second, .val (.double (18442240474082181120 : UInt64)), .second, .val (.ref b3), .val (.ref b4), .unset, .unset, .unset] [(.int (1 : Int32)), (.ref b4)])) _
    refine XS.dload X7.here hx rfl (hb hby at_91) rfl ?_
    show Steps p.tables e below (T7.setTop (mkF m 93 #[.val (.int p0), .val (.int p1), .val (.int p2), .val (.int p3), .val (.int p4), .val (.int (1 : Int32)), .val (.int (0 : Int32)), .val (.int (1 : Int32)), .val (.int mn), .val (.int mx), .val (.double (9218868437227405312 : UInt64)), .second, .val (.double (18442240474082181120 : UInt64)), .second, .val (.ref b3), .val (.ref b4), .unset, .unset, .unset] [(.double (9218868437227405312 : UInt64)), (.int (1 : Int32)), (.ref b4)])) _
    refine XS.goto X7.here hx rfl (pc0 := 93) (pc' := 99) rfl (hb hby at_93) (by decide) (by decide) ?_
    show Steps p.tables e below (T7.setTop (mkF m 99 #[.val (.int p0), .val (.int p1), .val (.int p2), .val (.int p3), .val (.int p4), .val (.int (1 : Int32)), .val (.int (0 : Int32)), .val (.int (1 : Int32)), .val (.int mn), .val (.int mx), .val (.double (9218868437227405312 : UInt64)), .second, .val (.double (18442240474082181120 : UInt64)), .second, .val (.ref b3), .val (.ref b4), .unset, .unset, .unset] [(.double (9218868437227405312 : UInt64)), (.int (1 : Int32)), (.ref b4)])) _
    refine st11 _ ?_
    show Steps p.tables e below (T11.setTop (mkF m 100 #[.val (.int p0), .val (.int p1), .val (.int p2), .val (.int p3), .val (.int p4), .val (.int (1 : Int32)), .val (.int (0 : Int32)), .val (.int (1 : Int32)), .val (.int mn), .val (.int mx), .val (.double (9218868437227405312 : UInt64)), .second, .val (.double (18442240474082181120 : UInt64)), .second, .val (.ref b3), .val (.ref b4), .unset, .unset, .unset] [])) _
    refine XS.aload X11.here hx rfl (hb hby at_100) rfl rfl ?_
    show Steps p.tables e below (T11.setTop (mkF m 102 #[.val (.int p0), .val (.int p1), .val (.int p2), .val (.int p3), .val (.int p4), .val (.int (1 : Int32)), .val (.int (0 : Int32)), .val (.int (1 : Int32)), .val (.int mn), .val (.int mx), .val (.double (9218868437227405312 : UInt64)), .second, .val (.double (18442240474082181120 : UInt64)), .second, .val (.ref b3), .val (.ref b4), .unset, .unset, .unset] [(.ref b3)])) _
    refine XS.iload X11.here hx rfl (hb hby at_102) rfl ?_
    show Steps p.tables e below (T11.setTop (mkF m 104 #[.val (.int p0), .val (.int p1), .val (.int p2), .val (.int p3), .val (.int p4), .val (.int (1 : Int32)), .val (.int (0 : Int32)), .val (.int (1 : Int32)), .val (.int mn), .val (.int mx), .val (.double (9218868437227405312 : UInt64)), .second, .val (.double (18442240474082181120 : UInt64)), .second, .val (.ref b3), .val (.ref b4), .unset, .unset, .unset] [(.int (0 : Int32)), (.ref b3)])) _
    refine XS.iload X11.here hx rfl (hb hby at_104) rfl ?_
    show Steps p.tables e below (T11.setTop (mkF m 106 #[.val (.int p0), .val (.int p1), .val (.int p2), .val (.int p3), .val (.int p4), .val (.int (1 : Int32)), .val (.int (0 : Int32)), .val (.int (1 : Int32)), .val (.int mn), .val (.int mx), .val (.double (9218868437227405312 : UInt64)), .second, .val (.double (18442240474082181120 : UInt64)), .second, .val (.ref b3), .val (.ref b4), .unset, .unset, .unset] [(.int p4), (.int (0 : Int32)), (.ref b3)])) _
    refine XS.i2dS X11.here hx rfl (hb hby at_106) rfl (v := (FP.i2d p4)) rfl ?_
    show Steps p.tables e below (T11.setTop (mkF m 107 #[.val (.int p0), .val (.int p1), .val (.int p2), .val (.int p3), .val (.int p4), .val (.int (1 : Int32)), .val (.int (0 : Int32)), .val (.int (1 : Int32)), .val (.int mn), .val (.int mx), .val (.double (9218868437227405312 : UInt64)), .second, .val (.double (18442240474082181120 : UInt64)), .second, .val (.ref b3), .val (.ref b4), .unset, .unset, .unset] [(.double (FP.i2d p4)), (.int (0 : Int32)), (.ref b3)])) _
    refine st15 _ ?_
    show Steps p.tables e below (T15.setTop (mkF m 108 #[.val (.int p0), .val (.int p1), .val (.int p2), .val (.int p3), .val (.int p4), .val (.int (1 : Int32)), .val (.int (0 : Int32)), .val (.int (1 : Int32)), .val (.int mn), .val (.int mx), .val (.double (9218868437227405312 : UInt64)), .second, .val (.double (18442240474082181120 : UInt64)), .second, .val (.ref b3), .val (.ref b4), .unset, .unset, .unset] [])) _
    refine XS.aload X15.here hx rfl (hb hby at_108) rfl rfl ?_
    show Steps p.tables e below (T15.setTop (mkF m 110 #[.val (.int p0), .val (.int p1), .val (.int p2), .val (.int p3), .val (.int p4), .val (.int (1 : Int32)), .val (.int (0 : Int32)), .val (.int (1 : Int32)), .val (.int mn), .val (.int mx), .val (.double (9218868437227405312 : UInt64)), .second, .val (.double (18442240474082181120 : UInt64)), .second, .val (.ref b3), .val (.ref b4), .unset, .unset, .unset] [(.ref b4)])) _
    refine XS.iload X15.here hx rfl (hb hby at_110) rfl ?_
    show Steps p.tables e below (T15.setTop (mkF m 112 #[.val (.int p0), .val (.int p1), .val (.int p2), .val (.int p3), .val (.int p4), .val (.int (1 : Int32)), .val (.int (0 : Int32)), .val (.int (1 : Int32)), .val (.int mn), .val (.int mx), .val (.double (9218868437227405312 : UInt64)), .second, .val (.double (18442240474082181120 : UInt64)), .second, .val (.ref b3), .val (.ref b4), .unset, .unset, .unset] [(.int (0 : Int32)), (.ref b4)])) _
    refine XS.iloadN X15.here hx rfl (hb hby at_112) rfl ?_
    show Steps p.tables e below (T15.setTop (mkF m 113 #[.val (.int p0), .val (.int p1), .val (.int p2), .val (.int p3), .val (.int p4), .val (.int (1 : Int32)), .val (.int (0 : Int32)), .val (.int (1 : Int32)), .val (.int mn), .val (.int mx), .val (.double (9218868437227405312 : UInt64)), .second, .val (.double (18442240474082181120 : UInt64)), .second, .val (.ref b3), .val (.ref b4), .unset, .unset, .unset] [(.int p2), (.int (0 : Int32)), (.ref b4)])) _
    refine XS.iconst X15.here hx rfl (hb hby at_113) ?_
    show Steps p.tables e below (T15.setTop (mkF m 114 #[.val (.int p0), .val (.int p1), .val (.int p2), .val (.int p3), .val (.int p4), .val (.int (1 : Int32)), .val (.int (0 : Int32)), .val (.int (1 : Int32)), .val (.int mn), .val (.int mx), .val (.double (9218868437227405312 : UInt64)), .second, .val (.double (18442240474082181120 : UInt64)), .second, .val (.ref b3), .val (.ref b4), .unset, .unset, .unset] [(.int (2 : Int32)), (.int p2), (.int (0 : Int32)), (.ref b4)])) _
    refine XS.ishr X15.here hx rfl (hb hby at_114) rfl ?_
    show Steps p.tables e below (T15.setTop (mkF m 115 #[.val (.int p0), .val (.int p1), .val (.int p2), .val (.int p3), .val (.int p4), .val (.int (1 : Int32)), .val (.int (0 : Int32)), .val (.int (1 : Int32)), .val (.int mn), .val (.int mx), .val (.double (9218868437227405312 : UInt64)), .second, .val (.double (18442240474082181120 : UInt64)), .second, .val (.ref b3), .val (.ref b4), .unset, .unset, .unset] [(.int (p2 >>> ((2 : Int32) &&& 31))), (.int (0 : Int32)), (.ref b4)])) _
    refine XS.iconst X15.here hx rfl (hb hby at_115) ?_
    show Steps p.tables e below (T15.setTop (mkF m 116 #[.val (.int p0), .val (.int p1), .val (.int p2), .val (.int p3), .val (.int p4), .val (.int (1 : Int32)), .val (.int (0 : Int32)), .val (.int (1 : Int32)), .val (.int mn), .val (.int mx), .val (.double (9218868437227405312 : UInt64)), .second, .val (.double (18442240474082181120 : UInt64)), .second, .val (.ref b3), .val (.ref b4), .unset, .unset, .unset] [(.int (1 : Int32)), (.int (p2 >>> ((2 : Int32) &&& 31))), (.int (0 : Int32)), (.ref b4)])) _
    refine XS.iand X15.here hx rfl (hb hby at_116) rfl ?_
    show Steps p.tables e below (T15.setTop (mkF m 117 #[.val (.int p0), .val (.int p1), .val (.int p2), .val (.int p3), .val (.int p4), .val (.int (1 : Int32)), .val (.int (0 : Int32)), .val (.int (1 : Int32)), .val (.int mn), .val (.int mx), .val (.double (9218868437227405312 : UInt64)), .second, .val (.double (18442240474082181120 : UInt64)), .second, .val (.ref b3), .val (.ref b4), .unset, .unset, .unset] [(.int ((p2 >>> ((2 : Int32) &&& 31)) &&& (1 : Int32))), (.int (0 : Int32)), (.ref b4)])) _
    refine jn18 _ ?_
    show Steps p.tables e below (T15.setTop (mkF m 128 #[.val (.int p0), .val (.int p1), .val (.int p2), .val (.int p3), .val (.int p4), .val (.int (1 : Int32)), .val (.int (0 : Int32)), .val (.int (1 : Int32)), .val (.int mn), .val (.int mx), .val (.double (9218868437227405312 : UInt64)), .second, .val (.double (18442240474082181120 : UInt64)), .second, .val (.ref b3), .val (.ref b4), .unset, .unset, .unset] [(.double ub), (.int (0 : Int32)), (.ref b4)])) _
    refine st20 _ ?_
    show Steps p.tables e below (T20.setTop (mkF m 129 #[.val (.int p0), .val (.int p1), .val (.int p2), .val (.int p3), .val (.int p4), .val (.int (1 : Int32)), .val (.int (0 : Int32)), .val (.int (1 : Int32)), .val (.int mn), .val (.int mx), .val (.double (9218868437227405312 : UInt64)), .second, .val (.double (18442240474082181120 : UInt64)), .second, .val (.ref b3), .val (.ref b4), .unset, .unset, .unset] [])) _
    refine st23 _ ?_
    show Steps p.tables e below (T23.setTop (mkF m 132 #[.val (.int p0), .val (.int p1), .val (.int p2), .val (.int p3), .val (.int p4), .val (.int (1 : Int32)), .val (.int (0 : Int32)), .val (.int (1 : Int32)), .val (.int mn), .val (.int mx), .val (.double (9218868437227405312 : UInt64)), .second, .val (.double (18442240474082181120 : UInt64)), .second, .val (.ref b3), .val (.ref b4), .unset, .unset, .unset] [(.ref b23)])) _
    refine XS.dup X23.here hx rfl (hb hby at_132) rfl rfl ?_
    show Steps p.tables e below (T23.setTop (mkF m 133 #[.val (.int p0), .val (.int p1), .val (.int p2), .val (.int p3), .val (.int p4), .val (.int (1 : Int32)), .val (.int (0 : Int32)), .val (.int (1 : Int32)), .val (.int mn), .val (.int mx), .val (.double (9218868437227405312 : UInt64)), .second, .val (.double (18442240474082181120 : UInt64)), .second, .val (.ref b3), .val (.ref b4), .unset, .unset, .unset] [(.ref b23), (.ref b23)])) _
    refine XS.aload X23.here hx rfl (hb hby at_133) rfl rfl ?_
    show Steps p.tables e below (T23.setTop (mkF m 135 #[.val (.int p0), .val (.int p1), .val (.int p2), .val (.int p3), .val (.int p4), .val (.int (1 : Int32)), .val (.int (0 : Int32)), .val (.int (1 : Int32)), .val (.int mn), .val (.int mx), .val (.double (9218868437227405312 : UInt64)), .second, .val (.double (18442240474082181120 : UInt64)), .second, .val (.ref b3), .val (.ref b4), .unset, .unset, .unset] [(.ref b3), (.ref b23), (.ref b23)])) _
    refine XS.aload X23.here hx rfl (hb hby at_135) rfl rfl ?_
    show Steps p.tables e below (T23.setTop (mkF m 137 #[.val (.int p0), .val (.int p1), .val (.int p2), .val (.int p3), .val (.int p4), .val (.int (1 : Int32)), .val (.int (0 : Int32)), .val (.int (1 : Int32)), .val (.int mn), .val (.int mx), .val (.double (9218868437227405312 : UInt64)), .second, .val (.double (18442240474082181120 : UInt64)), .second, .val (.ref b3), .val (.ref b4), .unset, .unset, .unset] [(.ref b4), (.ref b3), (.ref b23), (.ref b23)])) _
    refine XS.iconst X23.here hx rfl (hb hby at_137) ?_
    show Steps p.tables e below (T23.setTop (mkF m 138 #[.val (.int p0), .val (.int p1), .val (.int p2), .val (.int p3), .val (.int p4), .val (.int (1 : Int32)), .val (.int (0 : Int32)), .val (.int (1 : Int32)), .val (.int mn), .val (.int mx), .val (.double (9218868437227405312 : UInt64)), .second, .val (.double (18442240474082181120 : UInt64)), .second, .val (.ref b3), .val (.ref b4), .unset, .unset, .unset] [(.int (2 : Int32)), (.ref b4), (.ref b3), (.ref b23), (.ref b23)])) _
    refine st26 _ ?_
    show Steps p.tables e below (T26.setTop (mkF m 140 #[.val (.int p0), .val (.int p1), .val (.int p2), .val (.int p3), .val (.int p4), .val (.int (1 : Int32)), .val (.int (0 : Int32)), .val (.int (1 : Int32)), .val (.int mn), .val (.int mx), .val (.double (9218868437227405312 : UInt64)), .second, .val (.double (18442240474082181120 : UInt64)), .second, .val (.ref b3), .val (.ref b4), .unset, .unset, .unset] [(.ref b26), (.ref b4), (.ref b3), (.ref b23), (.ref b23)])) _
    refine XS.dup X26.here hx rfl (hb hby at_140) rfl rfl ?_
    show Steps p.tables e below (T26.setTop (mkF m 141 #[.val (.int p0), .val (.int p1), .val (.int p2), .val (.int p3), .val (.int p4), .val (.int (1 : Int32)), .val (.int (0 : Int32)), .val (.int (1 : Int32)), .val (.int mn), .val (.int mx), .val (.double (9218868437227405312 : UInt64)), .second, .val (.double (18442240474082181120 : UInt64)), .second, .val (.ref b3), .val (.ref b4), .unset, .unset, .unset] [(.ref b26), (.ref b26), (.ref b4), (.ref b3), (.ref b23), (.ref b23)])) _
    refine XS.iconst X26.here hx rfl (hb hby at_141) ?_
    show Steps p.tables e below (T26.setTop (mkF m 142 #[.val (.int p0), .val (.int p1), .val (.int p2), .val (.int p3), .val (.int p4), .val (.int (1 : Int32)), .val (.int (0 : Int32)), .val (.int (1 : Int32)), .val (.int mn), .val (.int mx), .val (.double (9218868437227405312 : UInt64)), .second, .val (.double (18442240474082181120 : UInt64)), .second, .val (.ref b3), .val (.ref b4), .unset, .unset, .unset] [(.int (0 : Int32)), (.ref b26), (.ref b26), (.ref b4), (.ref b3), (.ref b23), (.ref b23)])) _
    refine XS.iconst X26.here hx rfl (hb hby at_142) ?_
    show Steps p.tables e below (T26.setTop (mkF m 143 #[.val (.int p0), .val (.int p1), .val (.int p2), .val (.int p3), .val (.int p4), .val (.int (1 : Int32)), .val (.int (0 : Int32)), .val (.int (1 : Int32)), .val (.int mn), .val (.int mx), .val (.double (9218868437227405312 : UInt64)), .second, .val (.double (18442240474082181120 : UInt64)), .second, .val (.ref b3), .val (.ref b4), .unset, .unset, .unset] [(.int (-1 : Int32)), (.int (0 : Int32)), (.ref b26), (.ref b26), (.ref b4), (.ref b3), (.ref b23), (.ref b23)])) _
    refine st34 _ ?_
    show Steps p.tables e below (T34.setTop (mkF m 144 #[.val (.int p0), .val (.int p1), .val (.int p2), .val (.int p3), .val (.int p4), .val (.int (1 : Int32)), .val (.int (0 : Int32)), .val (.int (1 : Int32)), .val (.int mn), .val (.int mx), .val (.double (9218868437227405312 : UInt64)), .second, .val (.double (18442240474082181120 : UInt64)), .second, .val (.ref b3), .val (.ref b4), .unset, .unset, .unset] [(.ref b26), (.ref b4), (.ref b3), (.ref b23), (.ref b23)])) _
    refine XS.dup X34.here hx rfl (hb hby at_144) rfl rfl ?_
    show Steps p.tables e below (T34.setTop (mkF m 145 #[.val (.int p0), .val (.int p1), .val (.int p2), .val (.int p3), .val (.int p4), .val (.int (1 : Int32)), .val (.int (0 : Int32)), .val (.int (1 : Int32)), .val (.int mn), .val (.int mx), .val (.double (9218868437227405312 : UInt64)), .second, .val (.double (18442240474082181120 : UInt64)), .second, .val (.ref b3), .val (.ref b4), .unset, .unset, .unset] [(.ref b26), (.ref b26), (.ref b4), (.ref b3), (.ref b23), (.ref b23)])) _
    refine XS.iconst X34.here hx rfl (hb hby at_145) ?_
    show Steps p.tables e below (T34.setTop (mkF m 146 #[.val (.int p0), .val (.int p1), .val (.int p2), .val (.int p3), .val (.int p4), .val (.int (1 : Int32)), .val (.int (0 : Int32)), .val (.int (1 : Int32)), .val (.int mn), .val (.int mx), .val (.double (9218868437227405312 : UInt64)), .second, .val (.double (18442240474082181120 : UInt64)), .second, .val (.ref b3), .val (.ref b4), .unset, .unset, .unset] [(.int (1 : Int32)), (.ref b26), (.ref b26), (.ref b4), (.ref b3), (.ref b23), (.ref b23)])) _
    refine XS.iconst X34.here hx rfl (hb hby at_146) ?_
    show Steps p.tables e below (T34.setTop (mkF m 147 #[.val (.int p0), .val (.int p1), .val (.int p2), .val (.int p3), .val (.int p4), .val (.int (1 : Int32)), .val (.int (0 : Int32)), .val (.int (1 : Int32)), .val (.int mn), .val (.int mx), .val (.double (9218868437227405312 : UInt64)), .second, .val (.double (18442240474082181120 : UInt64)), .second, .val (.ref b3), .val (.ref b4), .unset, .unset, .unset] [(.int (-1 : Int32)), (.int (1 : Int32)), (.ref b26), (.ref b26), (.ref b4), (.ref b3), (.ref b23), (.ref b23)])) _
    refine st44 _ ?_
    show Steps p.tables e below (T44.setTop (mkF m 148 #[.val (.int p0), .val (.int p1), .val (.int p2), .val (.int p3), .val (.int p4), .val (.int (1 : Int32)), .val (.int (0 : Int32)), .val (.int (1 : Int32)), .val (.int mn), .val (.int mx), .val (.double (9218868437227405312 : UInt64)), .second, .val (.double (18442240474082181120 : UInt64)), .second, .val (.ref b3), .val (.ref b4), .unset, .unset, .unset] [(.ref b26), (.ref b4), (.ref b3), (.ref b23), (.ref b23)])) _
    refine st53.trans ?_
    show Steps p.tables e below (T53.setTop (mkF m 151 #[.val (.int p0), .val (.int p1), .val (.int p2), .val (.int p3), .val (.int p4), .val (.int (1 : Int32)), .val (.int (0 : Int32)), .val (.int (1 : Int32)), .val (.int mn), .val (.int mx), .val (.double (9218868437227405312 : UInt64)), .second, .val (.double (18442240474082181120 : UInt64)), .second, .val (.ref b3), .val (.ref b4), .unset, .unset, .unset] [(.ref b23)])) _
    refine XS.astore X53.here hx rfl (hb hby at_151) rfl rfl (l' := #[.val (.int p0), .val (.int p1), .val (.int p2), .val (.int p3), .val (.int p4), .val (.int (1 : Int32)), .val (.int (0 : Int32)), .val (.int (1 : Int32)), .val (.int mn), .val (.int mx), .val (.double (9218868437227405312 : UInt64)), .second, .val (.double (18442240474082181120 : UInt64)), .second, .val (.ref b3), .val (.ref b4), .val (.ref b23), .unset, .unset]) rfl ?_
    show Steps p.tables e below (T53.setTop (mkF m 153 #[.val (.int p0), .val (.int p1), .val (.int p2), .val (.int p3), .val (.int p4), .val (.int (1 : Int32)), .val (.int (0 : Int32)), .val (.int (1 : Int32)), .val (.int mn), .val (.int mx), .val (.double (9218868437227405312 : UInt64)), .second, .val (.double (18442240474082181120 : UInt64)), .second, .val (.ref b3), .val (.ref b4), .val (.ref b23), .unset, .unset] [])) _
    refine XS.aload X53.here hx rfl (hb hby at_153) rfl rfl ?_
    show Steps p.tables e below (T53.setTop (mkF m 155 #[.val (.int p0), .val (.int p1), .val (.int p2), .val (.int p3), .val (.int p4), .val (.int (1 : Int32)), .val (.int (0 : Int32)), .val (.int (1 : Int32)), .val (.int mn), .val (.int mx), .val (.double (9218868437227405312 : UInt64)), .second, .val (.double (18442240474082181120 : UInt64)), .second, .val (.ref b3), .val (.ref b4), .val (.ref b23), .unset, .unset] [(.ref b23)])) _
    refine XS.iload X53.here hx rfl (hb hby at_155) rfl ?_
    show Steps p.tables e below (T53.setTop (mkF m 157 #[.val (.int p0), .val (.int p1), .val (.int p2), .val (.int p3), .val (.int p4), .val (.int (1 : Int32)), .val (.int (0 : Int32)), .val (.int (1 : Int32)), .val (.int mn), .val (.int mx), .val (.double (9218868437227405312 : UInt64)), .second, .val (.double (18442240474082181120 : UInt64)), .second, .val (.ref b3), .val (.ref b4), .val (.ref b23), .unset, .unset] [(.int (1 : Int32)), (.ref b23)])) _
    refine st62.trans ?_
    show Steps p.tables e below (T62.setTop (mkF m 160 #[.val (.int p0), .val (.int p1), .val (.int p2), .val (.int p3), .val (.int p4), .val (.int (1 : Int32)), .val (.int (0 : Int32)), .val (.int (1 : Int32)), .val (.int mn), .val (.int mx), .val (.double (9218868437227405312 : UInt64)), .second, .val (.double (18442240474082181120 : UInt64)), .second, .val (.ref b3), .val (.ref b4), .val (.ref b23), .unset, .unset] [(.double (FP.i2d mn))])) _
    refine XS.dstore X62.here hx rfl (hb hby at_160) rfl (l' := #[.val (.int p0), .val (.int p1), .val (.int p2), .val (.int p3), .val (.int p4), .val (.int (1 : Int32)), .val (.int (0 : Int32)), .val (.int (1 : Int32)), .val (.int mn), .val (.int mx), .val (.double (9218868437227405312 : UInt64)), .second, .val (.double (18442240474082181120 : UInt64)), .second, .val (.ref b3), .val (.ref b4), .val (.ref b23), .val (.double (FP.i2d mn)), .second]) rfl ?_
    show Steps p.tables e below (T62.setTop (mkF m 162 #[.val (.int p0), .val (.int p1), .val (.int p2), .val (.int p3), .val (.int p4), .val (.int (1 : Int32)), .val (.int (0 : Int32)), .val (.int (1 : Int32)), .val (.int mn), .val (.int mx), .val (.double (9218868437227405312 : UInt64)), .second, .val (.double (18442240474082181120 : UInt64)), .second, .val (.ref b3), .val (.ref b4), .val (.ref b23), .val (.double (FP.i2d mn)), .second] [])) _
    refine XS.iload X62.here hx rfl (hb hby at_162) rfl ?_
    show Steps p.tables e below (T62.setTop (mkF m 164 #[.val (.int p0), .val (.int p1), .val (.int p2), .val (.int p3), .val (.int p4), .val (.int (1 : Int32)), .val (.int (0 : Int32)), .val (.int (1 : Int32)), .val (.int mn), .val (.int mx), .val (.double (9218868437227405312 : UInt64)), .second, .val (.double (18442240474082181120 : UInt64)), .second, .val (.ref b3), .val (.ref b4), .val (.ref b23), .val (.double (FP.i2d mn)), .second] [(.int (1 : Int32))])) _
    refine XS.ifYes X62.here hx rfl (pc0 := 164) (pc' := 191) rfl (hb hby at_164) rfl ((if0 _ _).trans (feq (by decide : ¬ ((1 : Int32) = (0 : Int32)))).2) (by decide) (by decide) ?_
    show Steps p.tables e below (T62.setTop (mkF m 191 #[.val (.int p0), .val (.int p1), .val (.int p2), .val (.int p3), .val (.int p4), .val (.int (1 : Int32)), .val (.int (0 : Int32)), .val (.int (1 : Int32)), .val (.int mn), .val (.int mx), .val (.double (9218868437227405312 : UInt64)), .second, .val (.double (18442240474082181120 : UInt64)), .second, .val (.ref b3), .val (.ref b4), .val (.ref b23), .val (.double (FP.i2d mn)), .second] [])) _
    refine XS.iload X62.here hx rfl (hb hby at_191) rfl ?_
    show Steps p.tables e below (T62.setTop (mkF m 193 #[.val (.int p0), .val (.int p1), .val (.int p2), .val (.int p3), .val (.int p4), .val (.int (1 : Int32)), .val (.int (0 : Int32)), .val (.int (1 : Int32)), .val (.int mn), .val (.int mx), .val (.double (9218868437227405312 : UInt64)), .second, .val (.double (18442240474082181120 : UInt64)), .second, .val (.ref b3), .val (.ref b4), .val (.ref b23), .val (.double (FP.i2d mn)), .second] [(.int (1 : Int32))])) _
    refine XS.iconst X62.here hx rfl (hb hby at_193) ?_
    show Steps p.tables e below (T62.setTop (mkF m 194 #[.val (.int p0), .val (.int p1), .val (.int p2), .val (.int p3), .val (.int p4), .val (.int (1 : Int32)), .val (.int (0 : Int32)), .val (.int (1 : Int32)), .val (.int mn), .val (.int mx), .val (.double (9218868437227405312 : UInt64)), .second, .val (.double (18442240474082181120 : UInt64)), .second, .val (.ref b3), .val (.ref b4), .val (.ref b23), .val (.double (FP.i2d mn)), .second] [(.int (1 : Int32)), (.int (1 : Int32))])) _
    refine XS.icmpNo X62.here hx rfl (hb hby at_194) rfl (teq (by decide : (1 : Int32) = (1 : Int32))).2 ?_
    show Steps p.tables e below (T62.setTop (mkF m 197 #[.val (.int p0), .val (.int p1), .val (.int p2), .val (.int p3), .val (.int p4), .val (.int (1 : Int32)), .val (.int (0 : Int32)), .val (.int (1 : Int32)), .val (.int mn), .val (.int mx), .val (.double (9218868437227405312 : UInt64)), .second, .val (.double (18442240474082181120 : UInt64)), .second, .val (.ref b3), .val (.ref b4), .val (.ref b23), .val (.double (FP.i2d mn)), .second] [])) _
    refine XS.dload X62.here hx rfl (hb hby at_197) rfl ?_
    show Steps p.tables e below (T62.setTop (mkF m 199 #[.val (.int p0), .val (.int p1), .val (.int p2), .val (.int p3), .val (.int p4), .val (.int (1 : Int32)), .val (.int (0 : Int32)), .val (.int (1 : Int32)), .val (.int mn), .val (.int mx), .val (.double (9218868437227405312 : UInt64)), .second, .val (.double (18442240474082181120 : UInt64)), .second, .val (.ref b3), .val (.ref b4), .val (.ref b23), .val (.double (FP.i2d mn)), .second] [(.double (FP.i2d mn))])) _
    refine XS.iload X62.here hx rfl (hb hby at_199) rfl ?_
    show Steps p.tables e below (T62.setTop (mkF m 201 #[.val (.int p0), .val (.int p1), .val (.int p2), .val (.int p3), .val (.int p4), .val (.int (1 : Int32)), .val (.int (0 : Int32)), .val (.int (1 : Int32)), .val (.int mn), .val (.int mx), .val (.double (9218868437227405312 : UInt64)), .second, .val (.double (18442240474082181120 : UInt64)), .second, .val (.ref b3), .val (.ref b4), .val (.ref b23), .val (.double (FP.i2d mn)), .second] [(.int mn), (.double (FP.i2d mn))])) _
    refine XS.i2dS X62.here hx rfl (hb hby at_201) rfl (v := (FP.i2d mn)) rfl ?_
    show Steps p.tables e below (T62.setTop (mkF m 202 #[.val (.int p0), .val (.int p1), .val (.int p2), .val (.int p3), .val (.int p4), .val (.int (1 : Int32)), .val (.int (0 : Int32)), .val (.int (1 : Int32)), .val (.int mn), .val (.int mx), .val (.double (9218868437227405312 : UInt64)), .second, .val (.double (18442240474082181120 : UInt64)), .second, .val (.ref b3), .val (.ref b4), .val (.ref b23), .val (.double (FP.i2d mn)), .second] [(.double (FP.i2d mn)), (.double (FP.i2d mn))])) _
    refine XS.dcmpS X62.here hx rfl (hb hby at_202) rfl (v := (0 : Int32)) hd202 ?_
    show Steps p.tables e below (T62.setTop (mkF m 203 #[.val (.int p0), .val (.int p1), .val (.int p2), .val (.int p3), .val (.int p4), .val (.int (1 : Int32)), .val (.int (0 : Int32)), .val (.int (1 : Int32)), .val (.int mn), .val (.int mx), .val (.double (9218868437227405312 : UInt64)), .second, .val (.double (18442240474082181120 : UInt64)), .second, .val (.ref b3), .val (.ref b4), .val (.ref b23), .val (.double (FP.i2d mn)), .second] [(.int (0 : Int32))])) _
    refine XS.ifNo X62.here hx rfl (hb hby at_203) rfl ((if0 _ _).trans (teq (by decide : (0 : Int32) = (0 : Int32))).2) ?_
    show Steps p.tables e below (T62.setTop (mkF m 206 #[.val (.int p0), .val (.int p1), .val (.int p2), .val (.int p3), .val (.int p4), .val (.int (1 : Int32)), .val (.int (0 : Int32)), .val (.int (1 : Int32)), .val (.int mn), .val (.int mx), .val (.double (9218868437227405312 : UInt64)), .second, .val (.double (18442240474082181120 : UInt64)), .second, .val (.ref b3), .val (.ref b4), .val (.ref b23), .val (.double (FP.i2d mn)), .second] [])) _
    refine XS.iconst X62.here hx rfl (hb hby at_206) ?_
    show Steps p.tables e below (T62.setTop (mkF m 207 #[.val (.int p0), .val (.int p1), .val (.int p2), .val (.int p3), .val (.int p4), .val (.int (1 : Int32)), .val (.int (0 : Int32)), .val (.int (1 : Int32)), .val (.int mn), .val (.int mx), .val (.double (9218868437227405312 : UInt64)), .second, .val (.double (18442240474082181120 : UInt64)), .second, .val (.ref b3), .val (.ref b4), .val (.ref b23), .val (.double (FP.i2d mn)), .second] [(.int (1 : Int32))])) _
    refine XS.goto X62.here hx rfl (pc0 := 207) (pc' := 211) rfl (hb hby at_207) (by decide) (by decide) ?_
    show Steps p.tables e below (T62.setTop (mkF m 211 #[.val (.int p0), .val (.int p1), .val (.int p2), .val (.int p3), .val (.int p4), .val (.int (1 : Int32)), .val (.int (0 : Int32)), .val (.int (1 : Int32)), .val (.int mn), .val (.int mx), .val (.double (9218868437227405312 : UInt64)), .second, .val (.double (18442240474082181120 : UInt64)), .second, .val (.ref b3), .val (.ref b4), .val (.ref b23), .val (.double (FP.i2d mn)), .second] [(.int (1 : Int32))])) _
    exact retN X62 hx (t := .boolean) Bd.returns (by simp) (hb hby at_211) hr
  · show Q0 n0 _ T62.heap _
    rw [e62]
    exact ⟨rfl, N62⟩
set_option maxRecDepth 65536 in
set_option maxHeartbeats 40000000 in
theorem rm0_20 (l : Launch) (Z : State) (a0 : Array Value) (hw : ∀ d ∈ tables_1, d.before a0 Z = true) (ws : List Jvm.Cond) (p0 : Int32) (p1 : Int32) (p2 : Int32) (p3 : Int32) (p4 : Int32) (mn : Int32) (mx : Int32) (ub : UInt64) (h0 : Heap) (n0 : Nat) (Z0 : n0 ≤ h0.size) (hv2 : (p3 &&& (1 : Int32)) = (0 : Int32)) (hv13 : (p2 &&& (3 : Int32)) = (2 : Int32)) (hr_r_18 : (if p1 < p0 then p1 else p0) = mn) (hr_r_25 : (if p0 < p1 then p1 else p0) = mx) (hj_ub : (if ((p2 >>> ((2 : Int32) &&& 31)) &&& (1 : Int32)) = (0 : Int32) then (FP.i2d p4) else (9218868437227405312 : UInt64)) = ub) (hd9_157 : (cmpValue (FP.dcmp (9218868437227405312 : UInt64) (9218868437227405312 : UInt64)) .l) = (0 : Int32)) (hd216 : (cmpValue (FP.dcmp (18442240474082181120 : UInt64) (18442240474082181120 : UInt64)) .l) = (0 : Int32)) :
    MetFree l x (head1 (Jvm.Cond.code x code maxLocals ret :: ws) room_1) (fun a U => a = #[(.int p0), (.int p1), (.int p2), (.int p3), (.int p4)] ∧ Z.Warmed39 U.vm ∧ U.heap = h0) (fun _ _ _ _ _ => True) (fun _ U o U' => ∃ v L, o = .returned v ∧ Q0 n0 v U'.heap L ∧ FrameEnd U o U' L room_1.cells room_1.slots) := by
  refine MetFree.of_bodySF (plainFor_of_name pn_com_example_hedge_hedge_ValueBoundsValuePinLaw) hisR ?_
  intro p e s m args below meth c s₁ Bd hml0 hP hK
  obtain ⟨rfl, hZ, hh⟩ := hP
  have hx := Bd.exec
  have hby := Bd.bytes
  have hml : c.maxLocals = 19 := hml0
  have hown : s.vm.findClass "com/example/hedge/hedge/ValueBoundsValuePinLaw" = some m.cls := findClass_of_methodNamed Bd.named
  have hnm := (name_of_methodNamed Bd.named Bd.method).1
  have X0 : Stand p l e room_1 s m #[(.int p0), (.int p1), (.int p2), (.int p3), (.int p4)] below meth c s₁ [] 0 0 := Stand.of_body Bd
  have e0 : s₁.heap = h0 := by rw [← hh, Bd.state]; rfl
  have N0 := Fr.nil n0
  have pre0 : ∀ t, Steps p.tables e below (s₁.setTop (mkF m 0 #[.val (.int p0), .val (.int p1), .val (.int p2), .val (.int p3), .val (.int p4), .unset, .unset, .unset, .unset, .unset, .unset, .unset, .unset, .unset, .unset, .unset, .unset, .unset, .unset] [])) t → Steps p.tables e below (s₁.setTop (entryFrame m #[(.int p0), (.int p1), (.int p2), (.int p3), (.int p4)] maxLocals)) t := fun t k => castTop (ef_0_IIIII m p0 p1 p2 p3 p4) k
  obtain ⟨_, _, ⟨T1, L1, k1, n1⟩, -, X1, ⟨Lc1, hQ1, l1, y1, z1⟩, st1⟩ := Jvm.LawKit.callS X0 hx (y := (⟨"java/lang/Math", "min", "(II)I"⟩ : MethodName)) hown (mvT hZ (hw _ (List.mem_of_getElem? (i := 0) rfl))) (mvT hZ (hw _ (List.mem_of_getElem? (i := 1) rfl))) (mvT hZ (hw _ (List.mem_of_getElem? (i := 2) rfl))) (mvT hZ (hw _ (List.mem_of_getElem? (i := 3) rfl))) (by decide) (backOf (W := 0) (rm1M l Z a0 hw [] p0 p1 mn h0 n0 Z0 hr_r_18) hZ (hw _ (List.mem_of_getElem? (i := 3) rfl)) (hw _ (List.mem_of_getElem? (i := 2) rfl)) (by decide) (by decide)) (g := (mkF m 18 #[.val (.int p0), .val (.int p1), .val (.int p2), .val (.int p3), .val (.int p4), .val (.int (0 : Int32)), .val (.int (1 : Int32)), .val (.int (2 : Int32)), .unset, .unset, .unset, .unset, .unset, .unset, .unset, .unset, .unset, .unset, .unset] [(.int p1), (.int p0)])) rfl (by rw [hml]; rfl) (argsL := [(.int p0), (.int p1)]) (rest := []) (lenOf pd_1 rfl) rfl (by show 2 * 0 + _ ≤ _; exact Nat.le_of_eq rfl) (hb hby at_18) (fun _ _ => ⟨rfl, e0, (by decide : 0 + 0 ≤ _), (by decide : 0 + 0 ≤ _)⟩)
  dsimp only [Pt.U, Pt.locs, Pt.cells, Pt.slots] at X1 l1 y1 z1 st1 hQ1
  subst l1 y1 z1
  obtain ⟨rfl, N1q, eh1⟩ := hQ1
  have N1 := Fr.app N0 N1q
  have e1 : T1.heap = h0 := eh1
  obtain ⟨_, _, ⟨T2, L2, k2, n2⟩, -, X2, ⟨Lc2, hQ2, l2, y2, z2⟩, st2⟩ := Jvm.LawKit.callS X1 hx (y := (⟨"java/lang/Math", "max", "(II)I"⟩ : MethodName)) hown (mvT hZ (hw _ (List.mem_of_getElem? (i := 4) rfl))) (mvT hZ (hw _ (List.mem_of_getElem? (i := 5) rfl))) (mvT hZ (hw _ (List.mem_of_getElem? (i := 2) rfl))) (mvT hZ (hw _ (List.mem_of_getElem? (i := 6) rfl))) (by decide) (backOf (W := 0) (rm2M l Z a0 hw [] p0 p1 mx h0 n0 Z0 hr_r_25) hZ (hw _ (List.mem_of_getElem? (i := 6) rfl)) (hw _ (List.mem_of_getElem? (i := 2) rfl)) (by decide) (by decide)) (g := (mkF m 25 #[.val (.int p0), .val (.int p1), .val (.int p2), .val (.int p3), .val (.int p4), .val (.int (0 : Int32)), .val (.int (1 : Int32)), .val (.int (2 : Int32)), .val (.int mn), .unset, .unset, .unset, .unset, .unset, .unset, .unset, .unset, .unset, .unset] [(.int p1), (.int p0)])) rfl (by rw [hml]; rfl) (argsL := [(.int p0), (.int p1)]) (rest := []) (lenOf pd_1 rfl) rfl (by show 2 * 0 + _ ≤ _; exact Nat.le_of_eq rfl) (hb hby at_25) (fun _ _ => ⟨rfl, e1, (by decide : 0 + 0 ≤ _), (by decide : 0 + 0 ≤ _)⟩)
  dsimp only [Pt.U, Pt.locs, Pt.cells, Pt.slots] at X2 l2 y2 z2 st2 hQ2
  subst l2 y2 z2
  obtain ⟨rfl, N2q, eh2⟩ := hQ2
  have N2 := Fr.app N1 N2q
  have e2 : T2.heap = h0 := eh2
  obtain ⟨T3, h3, k3, X3, e3, E3, A3, st3⟩ := newP X2 hx hZ (hw _ (List.mem_of_getElem? (i := 9) rfl)) e2 (g := (mkF m 41 #[.val (.int p0), .val (.int p1), .val (.int p2), .val (.int p3), .val (.int p4), .val (.int (0 : Int32)), .val (.int (1 : Int32)), .val (.int (2 : Int32)), .val (.int mn), .val (.int mx), .val (.double (9218868437227405312 : UInt64)), .second, .val (.double (18442240474082181120 : UInt64)), .second, .unset, .unset, .unset, .unset, .unset] [(.int (2 : Int32))])) rfl (hb hby at_41) rfl (by decide) (cap := 2) (by decide) (by decide) (by decide) (by decide)
  obtain ⟨b3, g3⟩ : ∃ z, z = h0.size := ⟨_, rfl⟩
  rw [← g3] at A3 st3
  have g_b3 : n0 ≤ b3 := Nat.le_trans Z0 (Nat.le_of_eq g3.symm)
  have sz_b3 : h0.size ≤ b3 := Nat.le_trans (Keep.refl h0 []).1 (Nat.le_of_eq g3.symm)
  have K3 : Keep h0 h3 [] := (Keep.refl h0 []).ext E3
  have Zs3 := Nat.le_trans Z0 E3.1
  have V3 : Arv Z h3 b3 k3 .double (2 : Int32) [(.double (0 : UInt64)), (.double (0 : UInt64))] (.double (0 : UInt64)) := (Arv.new A3 (by decide)).pad (pad_rep [] (.double (0 : UInt64)) 2)
  obtain ⟨T4, h4, k4, X4, e4, E4, A4, st4⟩ := newP X3 hx hZ (hw _ (List.mem_of_getElem? (i := 9) rfl)) e3 (g := (mkF m 46 #[.val (.int p0), .val (.int p1), .val (.int p2), .val (.int p3), .val (.int p4), .val (.int (0 : Int32)), .val (.int (1 : Int32)), .val (.int (2 : Int32)), .val (.int mn), .val (.int mx), .val (.double (9218868437227405312 : UInt64)), .second, .val (.double (18442240474082181120 : UInt64)), .second, .val (.ref b3), .unset, .unset, .unset, .unset] [(.int (2 : Int32))])) rfl (hb hby at_46) rfl (by decide) (cap := 2) (by decide) (by decide) (by decide) (by decide)
  obtain ⟨b4, g4⟩ : ∃ z, z = h3.size := ⟨_, rfl⟩
  rw [← g4] at A4 st4
  have ne_b3_b4 : b3 ≠ b4 := Nat.ne_of_lt (Nat.lt_of_lt_of_le V3.lt (Nat.le_of_eq g4.symm))
  have g_b4 : n0 ≤ b4 := Nat.le_trans Zs3 (Nat.le_of_eq g4.symm)
  have sz_b4 : h0.size ≤ b4 := Nat.le_trans K3.1 (Nat.le_of_eq g4.symm)
  have f5 := V3.ext E4
  have K4 : Keep h0 h4 [] := K3.ext E4
  have Zs4 := Nat.le_trans Zs3 E4.1
  have V4 : Arv Z h4 b4 k4 .double (2 : Int32) [(.double (0 : UInt64)), (.double (0 : UInt64))] (.double (0 : UInt64)) := (Arv.new A4 (by decide)).pad (pad_rep [] (.double (0 : UInt64)) 2)
  obtain ⟨cq6, Arq6, qq6, Sq6, Nq6, Hq6, Gq6⟩ := id f5
  obtain ⟨T7, h7, X7, e7, W7, st7⟩ := stD X4 hx hZ e4 Arq6 (j := (0 : Int32)) (inb_of Sq6 ⟨by decide, by decide⟩) (g := (mkF m 74 #[.val (.int p0), .val (.int p1), .val (.int p2), .val (.int p3), .val (.int p4), .val (.int (0 : Int32)), .val (.int (1 : Int32)), .val (.int (2 : Int32)), .val (.int mn), .val (.int mx), .val (.double (9218868437227405312 : UInt64)), .second, .val (.double (18442240474082181120 : UInt64)), .second, .val (.ref b3), .val (.ref b4), .unset, .unset, .unset] [(.double (18442240474082181120 : UInt64)), (.int (0 : Int32)), (.ref b3)])) rfl rfl (hb hby at_74)
  have f8 := V4.other W7 (Ne.symm ne_b3_b4)
  have K7 : Keep h0 h7 [] := K4.wr W7 (Or.inr sz_b3)
  have Zs7 := Nat.le_trans Zs4 (Keep.of_wr W7).1
  have N7 := Fr.snoc X7 N2 g_b3
  have f9 : Arv Z h7 b3 k3 .double (2 : Int32) [(.double (18442240474082181120 : UInt64)), (.double (0 : UInt64))] (.double (0 : UInt64)) := Arv.set Arq6 qq6 Sq6 Nq6 Hq6 Gq6 rfl W7 0 rfl (Nat.le_of_ble_eq_true rfl)
  obtain ⟨cq10, Arq10, qq10, Sq10, Nq10, Hq10, Gq10⟩ := id f8
  obtain ⟨T11, h11, X11, e11, W11, st11⟩ := stD X7 hx hZ e7 Arq10 (j := (0 : Int32)) (inb_of Sq10 ⟨by decide, by decide⟩) (g := (mkF m 99 #[.val (.int p0), .val (.int p1), .val (.int p2), .val (.int p3), .val (.int p4), .val (.int (0 : Int32)), .val (.int (1 : Int32)), .val (.int (2 : Int32)), .val (.int mn), .val (.int mx), .val (.double (9218868437227405312 : UInt64)), .second, .val (.double (18442240474082181120 : UInt64)), .second, .val (.ref b3), .val (.ref b4), .unset, .unset, .unset] [(.double (9218868437227405312 : UInt64)), (.int (0 : Int32)), (.ref b4)])) rfl rfl (hb hby at_99)
  have f12 := f9.other W11 ne_b3_b4
  have K11 : Keep h0 h11 [] := K7.wr W11 (Or.inr sz_b4)
  have Zs11 := Nat.le_trans Zs7 (Keep.of_wr W11).1
  have N11 := Fr.snoc X11 N7 g_b4
  have f13 : Arv Z h11 b4 k4 .double (2 : Int32) [(.double (9218868437227405312 : UInt64)), (.double (0 : UInt64))] (.double (0 : UInt64)) := Arv.set Arq10 qq10 Sq10 Nq10 Hq10 Gq10 rfl W11 0 rfl (Nat.le_of_ble_eq_true rfl)
  obtain ⟨cq14, Arq14, qq14, Sq14, Nq14, Hq14, Gq14⟩ := id f12
  obtain ⟨T15, h15, X15, e15, W15, st15⟩ := stD X11 hx hZ e11 Arq14 (j := (1 : Int32)) (inb_of Sq14 ⟨by decide, by decide⟩) (g := (mkF m 107 #[.val (.int p0), .val (.int p1), .val (.int p2), .val (.int p3), .val (.int p4), .val (.int (0 : Int32)), .val (.int (1 : Int32)), .val (.int (2 : Int32)), .val (.int mn), .val (.int mx), .val (.double (9218868437227405312 : UInt64)), .second, .val (.double (18442240474082181120 : UInt64)), .second, .val (.ref b3), .val (.ref b4), .unset, .unset, .unset] [(.double (FP.i2d p4)), (.int (1 : Int32)), (.ref b3)])) rfl rfl (hb hby at_107)
  have f16 := f13.other W15 (Ne.symm ne_b3_b4)
  have K15 : Keep h0 h15 [] := K11.wr W15 (Or.inr sz_b3)
  have Zs15 := Nat.le_trans Zs11 (Keep.of_wr W15).1
  have N15 := Fr.snoc X15 N11 g_b3
  have f17 : Arv Z h15 b3 k3 .double (2 : Int32) [(.double (18442240474082181120 : UInt64)), (.double (FP.i2d p4))] (.double (0 : UInt64)) := Arv.set Arq14 qq14 Sq14 Nq14 Hq14 Gq14 rfl W15 1 rfl (Nat.le_of_ble_eq_true rfl)
  have jn18 : ∀ target, Steps p.tables e below (T15.setTop (mkF m 128 #[.val (.int p0), .val (.int p1), .val (.int p2), .val (.int p3), .val (.int p4), .val (.int (0 : Int32)), .val (.int (1 : Int32)), .val (.int (2 : Int32)), .val (.int mn), .val (.int mx), .val (.double (9218868437227405312 : UInt64)), .second, .val (.double (18442240474082181120 : UInt64)), .second, .val (.ref b3), .val (.ref b4), .unset, .unset, .unset] [(.double ub), (.int (1 : Int32)), (.ref b4)])) target → Steps p.tables e below (T15.setTop (mkF m 117 #[.val (.int p0), .val (.int p1), .val (.int p2), .val (.int p3), .val (.int p4), .val (.int (0 : Int32)), .val (.int (1 : Int32)), .val (.int (2 : Int32)), .val (.int mn), .val (.int mx), .val (.double (9218868437227405312 : UInt64)), .second, .val (.double (18442240474082181120 : UInt64)), .second, .val (.ref b3), .val (.ref b4), .unset, .unset, .unset] [(.int ((p2 >>> ((2 : Int32) &&& 31)) &&& (1 : Int32))), (.int (1 : Int32)), (.ref b4)])) target := by
    intro target kt
    by_cases hq : ((p2 >>> ((2 : Int32) &&& 31)) &&& (1 : Int32)) = (0 : Int32)
    · rw [if_pos hq] at hj_ub; subst hj_ub
      show Steps p.tables e below (T15.setTop (mkF m 117 #[.val (.int p0), .val (.int p1), .val (.int p2), .val (.int p3), .val (.int p4), .val (.int (0 : Int32)), .val (.int (1 : Int32)), .val (.int (2 : Int32)), .val (.int mn), .val (.int mx), .val (.double (9218868437227405312 : UInt64)), .second, .val (.double (18442240474082181120 : UInt64)), .second, .val (.ref b3), .val (.ref b4), .unset, .unset, .unset] [(.int ((p2 >>> ((2 : Int32) &&& 31)) &&& (1 : Int32))), (.int (1 : Int32)), (.ref b4)])) _
      refine XS.ifYes X15.here hx rfl (pc0 := 117) (pc' := 125) rfl (hb hby at_117) rfl ((if0 _ _).trans (teq hq).1) (by decide) (by decide) ?_
      show Steps p.tables e below (T15.setTop (mkF m 125 #[.val (.int p0), .val (.int p1), .val (.int p2), .val (.int p3), .val (.int p4), .val (.int (0 : Int32)), .val (.int (1 : Int32)), .val (.int (2 : Int32)), .val (.int mn), .val (.int mx), .val (.double (9218868437227405312 : UInt64)), .second, .val (.double (18442240474082181120 : UInt64)), .second, .val (.ref b3), .val (.ref b4), .unset, .unset, .unset] [(.int (1 : Int32)), (.ref b4)])) _
      refine XS.iload X15.here hx rfl (hb hby at_125) rfl ?_
      show Steps p.tables e below (T15.setTop (mkF m 127 #[.val (.int p0), .val (.int p1), .val (.int p2), .val (.int p3), .val (.int p4), .val (.int (0 : Int32)), .val (.int (1 : Int32)), .val (.int (2 : Int32)), .val (.int mn), .val (.int mx), .val (.double (9218868437227405312 : UInt64)), .second, .val (.double (18442240474082181120 : UInt64)), .second, .val (.ref b3), .val (.ref b4), .unset, .unset, .unset] [(.int p4), (.int (1 : Int32)), (.ref b4)])) _
      refine XS.i2dS X15.here hx rfl (hb hby at_127) rfl (v := (FP.i2d p4)) rfl ?_
      show Steps p.tables e below (T15.setTop (mkF m 128 #[.val (.int p0), .val (.int p1), .val (.int p2), .val (.int p3), .val (.int p4), .val (.int (0 : Int32)), .val (.int (1 : Int32)), .val (.int (2 : Int32)), .val (.int mn), .val (.int mx), .val (.double (9218868437227405312 : UInt64)), .second, .val (.double (18442240474082181120 : UInt64)), .second, .val (.ref b3), .val (.ref b4), .unset, .unset, .unset] [(.double (FP.i2d p4)), (.int (1 : Int32)), (.ref b4)])) _
      exact kt
    · rw [if_neg hq] at hj_ub; subst hj_ub
      show Steps p.tables e below (T15.setTop (mkF m 117 #[.val (.int p0), .val (.int p1), .val (.int p2), .val (.int p3), .val (.int p4), .val (.int (0 : Int32)), .val (.int (1 : Int32)), .val (.int (2 : Int32)), .val (.int mn), .val (.int mx), .val (.double (9218868437227405312 : UInt64)), .second, .val (.double (18442240474082181120 : UInt64)), .second, .val (.ref b3), .val (.ref b4), .unset, .unset, .unset] [(.int ((p2 >>> ((2 : Int32) &&& 31)) &&& (1 : Int32))), (.int (1 : Int32)), (.ref b4)])) _
      refine XS.ifNo X15.here hx rfl (hb hby at_117) rfl ((if0 _ _).trans (feq hq).1) ?_
      show Steps p.tables e below (T15.setTop (mkF m 120 #[.val (.int p0), .val (.int p1), .val (.int p2), .val (.int p3), .val (.int p4), .val (.int (0 : Int32)), .val (.int (1 : Int32)), .val (.int (2 : Int32)), .val (.int mn), .val (.int mx), .val (.double (9218868437227405312 : UInt64)), .second, .val (.double (18442240474082181120 : UInt64)), .second, .val (.ref b3), .val (.ref b4), .unset, .unset, .unset] [(.int (1 : Int32)), (.ref b4)])) _
      refine XS.dload X15.here hx rfl (hb hby at_120) rfl ?_
      show Steps p.tables e below (T15.setTop (mkF m 122 #[.val (.int p0), .val (.int p1), .val (.int p2), .val (.int p3), .val (.int p4), .val (.int (0 : Int32)), .val (.int (1 : Int32)), .val (.int (2 : Int32)), .val (.int mn), .val (.int mx), .val (.double (9218868437227405312 : UInt64)), .second, .val (.double (18442240474082181120 : UInt64)), .second, .val (.ref b3), .val (.ref b4), .unset, .unset, .unset] [(.double (9218868437227405312 : UInt64)), (.int (1 : Int32)), (.ref b4)])) _
      refine XS.goto X15.here hx rfl (pc0 := 122) (pc' := 128) rfl (hb hby at_122) (by decide) (by decide) ?_
      show Steps p.tables e below (T15.setTop (mkF m 128 #[.val (.int p0), .val (.int p1), .val (.int p2), .val (.int p3), .val (.int p4), .val (.int (0 : Int32)), .val (.int (1 : Int32)), .val (.int (2 : Int32)), .val (.int mn), .val (.int mx), .val (.double (9218868437227405312 : UInt64)), .second, .val (.double (18442240474082181120 : UInt64)), .second, .val (.ref b3), .val (.ref b4), .unset, .unset, .unset] [(.double (9218868437227405312 : UInt64)), (.int (1 : Int32)), (.ref b4)])) _
      exact kt
  obtain ⟨cq19, Arq19, qq19, Sq19, Nq19, Hq19, Gq19⟩ := id f16
  obtain ⟨T20, h20, X20, e20, W20, st20⟩ := stD X15 hx hZ e15 Arq19 (j := (1 : Int32)) (inb_of Sq19 ⟨by decide, by decide⟩) (g := (mkF m 128 #[.val (.int p0), .val (.int p1), .val (.int p2), .val (.int p3), .val (.int p4), .val (.int (0 : Int32)), .val (.int (1 : Int32)), .val (.int (2 : Int32)), .val (.int mn), .val (.int mx), .val (.double (9218868437227405312 : UInt64)), .second, .val (.double (18442240474082181120 : UInt64)), .second, .val (.ref b3), .val (.ref b4), .unset, .unset, .unset] [(.double ub), (.int (1 : Int32)), (.ref b4)])) rfl rfl (hb hby at_128)
  have f21 := f17.other W20 ne_b3_b4
  have K20 : Keep h0 h20 [] := K15.wr W20 (Or.inr sz_b4)
  have Zs20 := Nat.le_trans Zs15 (Keep.of_wr W20).1
  have N20 := Fr.snoc X20 N15 g_b4
  have f22 : Arv Z h20 b4 k4 .double (2 : Int32) [(.double (9218868437227405312 : UInt64)), (.double ub)] (.double (0 : UInt64)) := Arv.set Arq19 qq19 Sq19 Nq19 Hq19 Gq19 rfl W20 1 rfl (Nat.le_of_ble_eq_true rfl)
  obtain ⟨T23, h23, X23, e23, E23, A23, D23, -, st23⟩ := newO X20 hx hZ hown (hw _ (List.mem_of_getElem? (i := 10) rfl)) (hw _ (List.mem_of_getElem? (i := 11) rfl)) (hw _ (List.mem_of_getElem? (i := 12) rfl)) e20 (g := (mkF m 129 #[.val (.int p0), .val (.int p1), .val (.int p2), .val (.int p3), .val (.int p4), .val (.int (0 : Int32)), .val (.int (1 : Int32)), .val (.int (2 : Int32)), .val (.int mn), .val (.int mx), .val (.double (9218868437227405312 : UInt64)), .second, .val (.double (18442240474082181120 : UInt64)), .second, .val (.ref b3), .val (.ref b4), .unset, .unset, .unset] [])) rfl (hb hby at_129) (by decide) (by decide)
  obtain ⟨b23, g23⟩ : ∃ z, z = h20.size := ⟨_, rfl⟩
  rw [← g23] at A23 D23 st23
  have ne_b3_b23 : b3 ≠ b23 := Nat.ne_of_lt (Nat.lt_of_lt_of_le f21.lt (Nat.le_of_eq g23.symm))
  have ne_b4_b23 : b4 ≠ b23 := Nat.ne_of_lt (Nat.lt_of_lt_of_le f22.lt (Nat.le_of_eq g23.symm))
  have g_b23 : n0 ≤ b23 := Nat.le_trans Zs20 (Nat.le_of_eq g23.symm)
  have sz_b23 : h0.size ≤ b23 := Nat.le_trans K20.1 (Nat.le_of_eq g23.symm)
  have f24 := f21.ext E23
  have f25 := f22.ext E23
  have K23 : Keep h0 h23 [] := K20.ext E23
  have Zs23 := Nat.le_trans Zs20 E23.1
  have F23_lower : Fld Z h23 b23 "com/example/hedge/hedge/ValueBounds" "lower" "[D" .null := D23 (Or.inr (hw _ (List.mem_of_getElem? (i := 27) rfl))) (ty := (.array .double)) (by decide)
  have F23_upper : Fld Z h23 b23 "com/example/hedge/hedge/ValueBounds" "upper" "[D" .null := D23 (Or.inr (hw _ (List.mem_of_getElem? (i := 29) rfl))) (ty := (.array .double)) (by decide)
  have F23_strategy : Fld Z h23 b23 "com/example/hedge/hedge/ValueBounds" "strategy" "[[I" .null := D23 (Or.inr (hw _ (List.mem_of_getElem? (i := 31) rfl))) (ty := (.array (.array .int))) (by decide)
  obtain ⟨T26, h26, k26, X26, e26, E26, A26, B26, st26⟩ := newPE X23 hx hZ (hw _ (List.mem_of_getElem? (i := 13) rfl)) e23 (g := (mkF m 138 #[.val (.int p0), .val (.int p1), .val (.int p2), .val (.int p3), .val (.int p4), .val (.int (0 : Int32)), .val (.int (1 : Int32)), .val (.int (2 : Int32)), .val (.int mn), .val (.int mx), .val (.double (9218868437227405312 : UInt64)), .second, .val (.double (18442240474082181120 : UInt64)), .second, .val (.ref b3), .val (.ref b4), .unset, .unset, .unset] [(.int (2 : Int32)), (.ref b4), (.ref b3), (.ref b23), (.ref b23)])) rfl (hb hby at_138) rfl (by decide) (cap := 2) (by decide) (by decide) (by decide) (by decide) (ad := "[I") rfl
  obtain ⟨b26, g26⟩ : ∃ z, z = h23.size := ⟨_, rfl⟩
  rw [← g26] at A26 st26 B26
  have ne_b3_b26 : b3 ≠ b26 := Nat.ne_of_lt (Nat.lt_of_lt_of_le f24.lt (Nat.le_of_eq g26.symm))
  have ne_b4_b26 : b4 ≠ b26 := Nat.ne_of_lt (Nat.lt_of_lt_of_le f25.lt (Nat.le_of_eq g26.symm))
  have ne_b23_b26 : b23 ≠ b26 := Nat.ne_of_lt (Nat.lt_of_lt_of_le A23.lt (Nat.le_of_eq g26.symm))
  have g_b26 : n0 ≤ b26 := Nat.le_trans Zs23 (Nat.le_of_eq g26.symm)
  have sz_b26 : h0.size ≤ b26 := Nat.le_trans K23.1 (Nat.le_of_eq g26.symm)
  have f27 := f24.ext E26
  have f28 := f25.ext E26
  have f29 := A23.ext E26
  have f30 := F23_lower.ext E26
  have f31 := F23_upper.ext E26
  have f32 := F23_strategy.ext E26
  have K26 : Keep h0 h26 [] := K23.ext E26
  have Zs26 := Nat.le_trans Zs23 E26.1
  have V26 : Arv Z h26 b26 k26 .int (2 : Int32) [(.int (0 : Int32)), (.int (0 : Int32))] (.int (0 : Int32)) := (Arv.new A26 (by decide)).pad (pad_rep [] (.int (0 : Int32)) 2)
  obtain ⟨cq33, Arq33, qq33, Sq33, Nq33, Hq33, Gq33⟩ := id V26
  obtain ⟨T34, h34, X34, e34, W34, st34⟩ := stI X26 hx hZ e26 Arq33 (j := (0 : Int32)) (inb_of Sq33 ⟨by decide, by decide⟩) (g := (mkF m 143 #[.val (.int p0), .val (.int p1), .val (.int p2), .val (.int p3), .val (.int p4), .val (.int (0 : Int32)), .val (.int (1 : Int32)), .val (.int (2 : Int32)), .val (.int mn), .val (.int mx), .val (.double (9218868437227405312 : UInt64)), .second, .val (.double (18442240474082181120 : UInt64)), .second, .val (.ref b3), .val (.ref b4), .unset, .unset, .unset] [(.int (-1 : Int32)), (.int (0 : Int32)), (.ref b26), (.ref b26), (.ref b4), (.ref b3), (.ref b23), (.ref b23)])) rfl rfl (hb hby at_143)
  have f35 := f27.other W34 ne_b3_b26
  have f36 := f28.other W34 ne_b4_b26
  have f37 := f29.wr W34
  have f38 := f30.other W34 (Or.inl ne_b23_b26)
  have f39 := f31.other W34 (Or.inl ne_b23_b26)
  have f40 := f32.other W34 (Or.inl ne_b23_b26)
  have f41 := B26.wr W34
  have K34 : Keep h0 h34 [] := K26.wr W34 (Or.inr sz_b26)
  have Zs34 := Nat.le_trans Zs26 (Keep.of_wr W34).1
  have N34 := Fr.snoc X34 N20 g_b26
  have f42 : Arv Z h34 b26 k26 .int (2 : Int32) [(.int (-1 : Int32)), (.int (0 : Int32))] (.int (0 : Int32)) := Arv.set Arq33 qq33 Sq33 Nq33 Hq33 Gq33 rfl W34 0 rfl (Nat.le_of_ble_eq_true rfl)
  obtain ⟨cq43, Arq43, qq43, Sq43, Nq43, Hq43, Gq43⟩ := id f42
  obtain ⟨T44, h44, X44, e44, W44, st44⟩ := stI X34 hx hZ e34 Arq43 (j := (1 : Int32)) (inb_of Sq43 ⟨by decide, by decide⟩) (g := (mkF m 147 #[.val (.int p0), .val (.int p1), .val (.int p2), .val (.int p3), .val (.int p4), .val (.int (0 : Int32)), .val (.int (1 : Int32)), .val (.int (2 : Int32)), .val (.int mn), .val (.int mx), .val (.double (9218868437227405312 : UInt64)), .second, .val (.double (18442240474082181120 : UInt64)), .second, .val (.ref b3), .val (.ref b4), .unset, .unset, .unset] [(.int (-1 : Int32)), (.int (1 : Int32)), (.ref b26), (.ref b26), (.ref b4), (.ref b3), (.ref b23), (.ref b23)])) rfl rfl (hb hby at_147)
  have f45 := f35.other W44 ne_b3_b26
  have f46 := f36.other W44 ne_b4_b26
  have f47 := f37.wr W44
  have f48 := f38.other W44 (Or.inl ne_b23_b26)
  have f49 := f39.other W44 (Or.inl ne_b23_b26)
  have f50 := f40.other W44 (Or.inl ne_b23_b26)
  have f51 := f41.wr W44
  have K44 : Keep h0 h44 [] := K34.wr W44 (Or.inr sz_b26)
  have Zs44 := Nat.le_trans Zs34 (Keep.of_wr W44).1
  have N44 := Fr.snoc X44 N34 g_b26
  have f52 : Arv Z h44 b26 k26 .int (2 : Int32) [(.int (-1 : Int32)), (.int (-1 : Int32))] (.int (0 : Int32)) := Arv.set Arq43 qq43 Sq43 Nq43 Hq43 Gq43 rfl W44 1 rfl (Nat.le_of_ble_eq_true rfl)
  obtain ⟨_, _, ⟨T53, L53, k53, n53⟩, -, X53, ⟨Lc53, hQ53, l53, y53, z53⟩, st53⟩ := X44.specialBack hx (y := (⟨"com/example/hedge/hedge/ValueBounds", "<init>", "([D[D[I)V"⟩ : MethodName)) rfl hown (mvT hZ (hw _ (List.mem_of_getElem? (i := 14) rfl))) (mvT hZ (hw _ (List.mem_of_getElem? (i := 15) rfl))) (mvT hZ (hw _ (List.mem_of_getElem? (i := 16) rfl))) (by decide) (backOf (W := 1) (rm3 l Z a0 hw [] b23 b3 b4 b26 h44 n0 Zs44 f47 g_b23 f48 f49 f50 f51) hZ (hw _ (List.mem_of_getElem? (i := 16) rfl)) (hw _ (List.mem_of_getElem? (i := 12) rfl)) (by decide) (by decide)) (g := (mkF m 148 #[.val (.int p0), .val (.int p1), .val (.int p2), .val (.int p3), .val (.int p4), .val (.int (0 : Int32)), .val (.int (1 : Int32)), .val (.int (2 : Int32)), .val (.int mn), .val (.int mx), .val (.double (9218868437227405312 : UInt64)), .second, .val (.double (18442240474082181120 : UInt64)), .second, .val (.ref b3), .val (.ref b4), .unset, .unset, .unset] [(.ref b26), (.ref b4), (.ref b3), (.ref b23), (.ref b23)])) rfl (by rw [hml]; rfl) (Steps.refl _) (a := b23) (argsL := [(.ref b3), (.ref b4), (.ref b26)]) (rest := [(.ref b23)]) (lenOf pd_2 rfl) rfl (by show 2 * 0 + _ ≤ _; exact Nat.le_of_eq rfl) (hb hby at_148) (fun _ _ => ⟨rfl, e44, (by decide : 4 + 1 ≤ _), (by decide : 9 + 1 ≤ _)⟩)
  dsimp only [Pt.U, Pt.locs, Pt.cells, Pt.slots] at X53 l53 y53 z53 st53 hQ53
  subst l53 y53 z53
  obtain ⟨rfl, N53q, K53q, f54, f55, f56⟩ := hQ53
  have N53 := Fr.app N44 N53q
  have f57 := f45.keep K53q (own_niS ne_b3_b23 own_ni0)
  have f58 := f46.keep K53q (own_niS ne_b4_b23 own_ni0)
  have f59 := f47.keep K53q
  have f60 := f52.keep K53q (own_niS (Ne.symm ne_b23_b26) own_ni0)
  have f61 := f51.keep K53q
  have K53 : Keep h0 T53.heap [] := K44.trans K53q (own_allS (Or.inr sz_b23) own_all0)
  have Zs53 := Nat.le_trans Zs44 K53q.1
  obtain ⟨cq62, kq62, q62a, q62b, q62c⟩ := isOf hZ rfl f54
  obtain ⟨_, _, ⟨T62, L62, k62, n62⟩, -, X62, ⟨Lc62, hQ62, l62, y62, z62⟩, st62⟩ := X53.virtualBack hx (y := (⟨"com/example/hedge/hedge/ValueBounds", "value", "(I)D"⟩ : MethodName)) (z := (⟨"com/example/hedge/hedge/ValueBounds", "value", "(I)D"⟩ : MethodName)) hown (mvT hZ (hw _ (List.mem_of_getElem? (i := 32) rfl))) (mvT hZ (hw _ (List.mem_of_getElem? (i := 33) rfl))) (notFace_of_selects (args := #[]) (mvT hZ (hw _ (List.mem_of_getElem? (i := 35) rfl)))) (mvT hZ (hw _ (List.mem_of_getElem? (i := 35) rfl))) (mvT hZ (hw _ (List.mem_of_getElem? (i := 34) rfl))) (by decide) (backOf (W := 0) (rm6_0i l Z a0 hw [] b23 b3 b4 k3 k4 (18442240474082181120 : UInt64) (FP.i2d p4) (9218868437227405312 : UInt64) ub T53.heap n0 Zs53 f55 f56 f57 f58 hd9_157) hZ (hw _ (List.mem_of_getElem? (i := 36) rfl)) (hw _ (List.mem_of_getElem? (i := 12) rfl)) (by decide) (by decide)) q62a q62c (g := (mkF m 157 #[.val (.int p0), .val (.int p1), .val (.int p2), .val (.int p3), .val (.int p4), .val (.int (0 : Int32)), .val (.int (1 : Int32)), .val (.int (2 : Int32)), .val (.int mn), .val (.int mx), .val (.double (9218868437227405312 : UInt64)), .second, .val (.double (18442240474082181120 : UInt64)), .second, .val (.ref b3), .val (.ref b4), .val (.ref b23), .unset, .unset] [(.int (0 : Int32)), (.ref b23)])) rfl (by rw [hml]; rfl) (Steps.refl _) (argsL := [(.int (0 : Int32))]) (rest := []) (lenOf pd_3 rfl) rfl (by show 2 * 0 + _ ≤ _; exact Nat.le_of_eq rfl) (hb hby at_157) (fun _ _ => ⟨rfl, rfl, (by decide : 5 + 0 ≤ _), (by decide : 10 + 0 ≤ _)⟩)
  dsimp only [Pt.U, Pt.locs, Pt.cells, Pt.slots] at X62 l62 y62 z62 st62 hQ62
  subst l62 y62 z62
  obtain ⟨rfl, N62q, eh62⟩ := hQ62
  have N62 := Fr.app N53 N62q
  have e62 : T62.heap = T53.heap := eh62
  obtain ⟨fs, hr, hrun, hended, hW, hsame⟩ := X62.leave (v := some (.int (1 : Int32))) (fun h => by rw [Bd.returns] at h; cases h)
  refine ⟨_, _, pre0 _ ?_, hrun, hended, _, _, rfl, ?_, ⟨_, rfl⟩, hW, hsame.mono (by decide) (by decide)⟩
  · show Steps p.tables e below (s₁.setTop (mkF m 0 #[.val (.int p0), .val (.int p1), .val (.int p2), .val (.int p3), .val (.int p4), .unset, .unset, .unset, .unset, .unset, .unset, .unset, .unset, .unset, .unset, .unset, .unset, .unset, .unset] [])) _
    refine XS.iloadN X0.here hx rfl (hb hby at_0) rfl ?_
    show Steps p.tables e below (s₁.setTop (mkF m 1 #[.val (.int p0), .val (.int p1), .val (.int p2), .val (.int p3), .val (.int p4), .unset, .unset, .unset, .unset, .unset, .unset, .unset, .unset, .unset, .unset, .unset, .unset, .unset, .unset] [(.int p3)])) _
    refine XS.iconst X0.here hx rfl (hb hby at_1) ?_
    show Steps p.tables e below (s₁.setTop (mkF m 2 #[.val (.int p0), .val (.int p1), .val (.int p2), .val (.int p3), .val (.int p4), .unset, .unset, .unset, .unset, .unset, .unset, .unset, .unset, .unset, .unset, .unset, .unset, .unset, .unset] [(.int (1 : Int32)), (.int p3)])) _
    refine XS.iand X0.here hx rfl (hb hby at_2) rfl ?_
    show Steps p.tables e below (s₁.setTop (mkF m 3 #[.val (.int p0), .val (.int p1), .val (.int p2), .val (.int p3), .val (.int p4), .unset, .unset, .unset, .unset, .unset, .unset, .unset, .unset, .unset, .unset, .unset, .unset, .unset, .unset] [(.int (p3 &&& (1 : Int32)))])) _
    rw [hv2]
    show Steps p.tables e below (s₁.setTop (mkF m 3 #[.val (.int p0), .val (.int p1), .val (.int p2), .val (.int p3), .val (.int p4), .unset, .unset, .unset, .unset, .unset, .unset, .unset, .unset, .unset, .unset, .unset, .unset, .unset, .unset] [(.int (0 : Int32))])) _
    refine XS.istore X0.here hx rfl (hb hby at_3) rfl (l' := #[.val (.int p0), .val (.int p1), .val (.int p2), .val (.int p3), .val (.int p4), .val (.int (0 : Int32)), .unset, .unset, .unset, .unset, .unset, .unset, .unset, .unset, .unset, .unset, .unset, .unset, .unset]) rfl ?_
    show Steps p.tables e below (s₁.setTop (mkF m 5 #[.val (.int p0), .val (.int p1), .val (.int p2), .val (.int p3), .val (.int p4), .val (.int (0 : Int32)), .unset, .unset, .unset, .unset, .unset, .unset, .unset, .unset, .unset, .unset, .unset, .unset, .unset] [])) _
    refine XS.iconst X0.here hx rfl (hb hby at_5) ?_
    show Steps p.tables e below (s₁.setTop (mkF m 6 #[.val (.int p0), .val (.int p1), .val (.int p2), .val (.int p3), .val (.int p4), .val (.int (0 : Int32)), .unset, .unset, .unset, .unset, .unset, .unset, .unset, .unset, .unset, .unset, .unset, .unset, .unset] [(.int (1 : Int32))])) _
    refine XS.iload X0.here hx rfl (hb hby at_6) rfl ?_
    show Steps p.tables e below (s₁.setTop (mkF m 8 #[.val (.int p0), .val (.int p1), .val (.int p2), .val (.int p3), .val (.int p4), .val (.int (0 : Int32)), .unset, .unset, .unset, .unset, .unset, .unset, .unset, .unset, .unset, .unset, .unset, .unset, .unset] [(.int (0 : Int32)), (.int (1 : Int32))])) _
    refine XS.isub X0.here hx rfl (hb hby at_8) rfl ?_
    show Steps p.tables e below (s₁.setTop (mkF m 9 #[.val (.int p0), .val (.int p1), .val (.int p2), .val (.int p3), .val (.int p4), .val (.int (0 : Int32)), .unset, .unset, .unset, .unset, .unset, .unset, .unset, .unset, .unset, .unset, .unset, .unset, .unset] [(.int ((1 : Int32) - (0 : Int32)))])) _
    rw [show ((1 : Int32) - (0 : Int32)) = (1 : Int32) by decide]
    show Steps p.tables e below (s₁.setTop (mkF m 9 #[.val (.int p0), .val (.int p1), .val (.int p2), .val (.int p3), .val (.int p4), .val (.int (0 : Int32)), .unset, .unset, .unset, .unset, .unset, .unset, .unset, .unset, .unset, .unset, .unset, .unset, .unset] [(.int (1 : Int32))])) _
    refine XS.istore X0.here hx rfl (hb hby at_9) rfl (l' := #[.val (.int p0), .val (.int p1), .val (.int p2), .val (.int p3), .val (.int p4), .val (.int (0 : Int32)), .val (.int (1 : Int32)), .unset, .unset, .unset, .unset, .unset, .unset, .unset, .unset, .unset, .unset, .unset, .unset]) rfl ?_
    show Steps p.tables e below (s₁.setTop (mkF m 11 #[.val (.int p0), .val (.int p1), .val (.int p2), .val (.int p3), .val (.int p4), .val (.int (0 : Int32)), .val (.int (1 : Int32)), .unset, .unset, .unset, .unset, .unset, .unset, .unset, .unset, .unset, .unset, .unset, .unset] [])) _
    refine XS.iloadN X0.here hx rfl (hb hby at_11) rfl ?_
    show Steps p.tables e below (s₁.setTop (mkF m 12 #[.val (.int p0), .val (.int p1), .val (.int p2), .val (.int p3), .val (.int p4), .val (.int (0 : Int32)), .val (.int (1 : Int32)), .unset, .unset, .unset, .unset, .unset, .unset, .unset, .unset, .unset, .unset, .unset, .unset] [(.int p2)])) _
    refine XS.iconst X0.here hx rfl (hb hby at_12) ?_
    show Steps p.tables e below (s₁.setTop (mkF m 13 #[.val (.int p0), .val (.int p1), .val (.int p2), .val (.int p3), .val (.int p4), .val (.int (0 : Int32)), .val (.int (1 : Int32)), .unset, .unset, .unset, .unset, .unset, .unset, .unset, .unset, .unset, .unset, .unset, .unset] [(.int (3 : Int32)), (.int p2)])) _
    refine XS.iand X0.here hx rfl (hb hby at_13) rfl ?_
    show Steps p.tables e below (s₁.setTop (mkF m 14 #[.val (.int p0), .val (.int p1), .val (.int p2), .val (.int p3), .val (.int p4), .val (.int (0 : Int32)), .val (.int (1 : Int32)), .unset, .unset, .unset, .unset, .unset, .unset, .unset, .unset, .unset, .unset, .unset, .unset] [(.int (p2 &&& (3 : Int32)))])) _
    rw [hv13]
    show Steps p.tables e below (s₁.setTop (mkF m 14 #[.val (.int p0), .val (.int p1), .val (.int p2), .val (.int p3), .val (.int p4), .val (.int (0 : Int32)), .val (.int (1 : Int32)), .unset, .unset, .unset, .unset, .unset, .unset, .unset, .unset, .unset, .unset, .unset, .unset] [(.int (2 : Int32))])) _
    refine XS.istore X0.here hx rfl (hb hby at_14) rfl (l' := #[.val (.int p0), .val (.int p1), .val (.int p2), .val (.int p3), .val (.int p4), .val (.int (0 : Int32)), .val (.int (1 : Int32)), .val (.int (2 : Int32)), .unset, .unset, .unset, .unset, .unset, .unset, .unset, .unset, .unset, .unset, .unset]) rfl ?_
    show Steps p.tables e below (s₁.setTop (mkF m 16 #[.val (.int p0), .val (.int p1), .val (.int p2), .val (.int p3), .val (.int p4), .val (.int (0 : Int32)), .val (.int (1 : Int32)), .val (.int (2 : Int32)), .unset, .unset, .unset, .unset, .unset, .unset, .unset, .unset, .unset, .unset, .unset] [])) _
    refine XS.iloadN X0.here hx rfl (hb hby at_16) rfl ?_
    show Steps p.tables e below (s₁.setTop (mkF m 17 #[.val (.int p0), .val (.int p1), .val (.int p2), .val (.int p3), .val (.int p4), .val (.int (0 : Int32)), .val (.int (1 : Int32)), .val (.int (2 : Int32)), .unset, .unset, .unset, .unset, .unset, .unset, .unset, .unset, .unset, .unset, .unset] [(.int p0)])) _
    refine XS.iloadN X0.here hx rfl (hb hby at_17) rfl ?_
    show Steps p.tables e below (s₁.setTop (mkF m 18 #[.val (.int p0), .val (.int p1), .val (.int p2), .val (.int p3), .val (.int p4), .val (.int (0 : Int32)), .val (.int (1 : Int32)), .val (.int (2 : Int32)), .unset, .unset, .unset, .unset, .unset, .unset, .unset, .unset, .unset, .unset, .unset] [(.int p1), (.int p0)])) _
    refine st1 _ ?_
    show Steps p.tables e below (T1.setTop (mkF m 21 #[.val (.int p0), .val (.int p1), .val (.int p2), .val (.int p3), .val (.int p4), .val (.int (0 : Int32)), .val (.int (1 : Int32)), .val (.int (2 : Int32)), .unset, .unset, .unset, .unset, .unset, .unset, .unset, .unset, .unset, .unset, .unset] [(.int mn)])) _
    refine XS.istore X1.here hx rfl (hb hby at_21) rfl (l' := #[.val (.int p0), .val (.int p1), .val (.int p2), .val (.int p3), .val (.int p4), .val (.int (0 : Int32)), .val (.int (1 : Int32)), .val (.int (2 : Int32)), .val (.int mn), .unset, .unset, .unset, .unset, .unset, .unset, .unset, .unset, .unset, .unset]) rfl ?_
    show Steps p.tables e below (T1.setTop (mkF m 23 #[.val (.int p0), .val (.int p1), .val (.int p2), .val (.int p3), .val (.int p4), .val (.int (0 : Int32)), .val (.int (1 : Int32)), .val (.int (2 : Int32)), .val (.int mn), .unset, .unset, .unset, .unset, .unset, .unset, .unset, .unset, .unset, .unset] [])) _
    refine XS.iloadN X1.here hx rfl (hb hby at_23) rfl ?_
    show Steps p.tables e below (T1.setTop (mkF m 24 #[.val (.int p0), .val (.int p1), .val (.int p2), .val (.int p3), .val (.int p4), .val (.int (0 : Int32)), .val (.int (1 : Int32)), .val (.int (2 : Int32)), .val (.int mn), .unset, .unset, .unset, .unset, .unset, .unset, .unset, .unset, .unset, .unset] [(.int p0)])) _
    refine XS.iloadN X1.here hx rfl (hb hby at_24) rfl ?_
    show Steps p.tables e below (T1.setTop (mkF m 25 #[.val (.int p0), .val (.int p1), .val (.int p2), .val (.int p3), .val (.int p4), .val (.int (0 : Int32)), .val (.int (1 : Int32)), .val (.int (2 : Int32)), .val (.int mn), .unset, .unset, .unset, .unset, .unset, .unset, .unset, .unset, .unset, .unset] [(.int p1), (.int p0)])) _
    refine st2 _ ?_
    show Steps p.tables e below (T2.setTop (mkF m 28 #[.val (.int p0), .val (.int p1), .val (.int p2), .val (.int p3), .val (.int p4), .val (.int (0 : Int32)), .val (.int (1 : Int32)), .val (.int (2 : Int32)), .val (.int mn), .unset, .unset, .unset, .unset, .unset, .unset, .unset, .unset, .unset, .unset] [(.int mx)])) _
    refine XS.istore X2.here hx rfl (hb hby at_28) rfl (l' := #[.val (.int p0), .val (.int p1), .val (.int p2), .val (.int p3), .val (.int p4), .val (.int (0 : Int32)), .val (.int (1 : Int32)), .val (.int (2 : Int32)), .val (.int mn), .val (.int mx), .unset, .unset, .unset, .unset, .unset, .unset, .unset, .unset, .unset]) rfl ?_
    show Steps p.tables e below (T2.setTop (mkF m 30 #[.val (.int p0), .val (.int p1), .val (.int p2), .val (.int p3), .val (.int p4), .val (.int (0 : Int32)), .val (.int (1 : Int32)), .val (.int (2 : Int32)), .val (.int mn), .val (.int mx), .unset, .unset, .unset, .unset, .unset, .unset, .unset, .unset, .unset] [])) _
    refine X2.ldc2DoubleC hx hown (mvT hZ (hw _ (List.mem_of_getElem? (i := 7) rfl))) (g := (mkF m 30 #[.val (.int p0), .val (.int p1), .val (.int p2), .val (.int p3), .val (.int p4), .val (.int (0 : Int32)), .val (.int (1 : Int32)), .val (.int (2 : Int32)), .val (.int mn), .val (.int mx), .unset, .unset, .unset, .unset, .unset, .unset, .unset, .unset, .unset] [])) rfl (hb hby at_30) _ ?_
    show Steps p.tables e below (T2.setTop (mkF m 33 #[.val (.int p0), .val (.int p1), .val (.int p2), .val (.int p3), .val (.int p4), .val (.int (0 : Int32)), .val (.int (1 : Int32)), .val (.int (2 : Int32)), .val (.int mn), .val (.int mx), .unset, .unset, .unset, .unset, .unset, .unset, .unset, .unset, .unset] [(.double (9218868437227405312 : UInt64))])) _
    refine XS.dstore X2.here hx rfl (hb hby at_33) rfl (l' := #[.val (.int p0), .val (.int p1), .val (.int p2), .val (.int p3), .val (.int p4), .val (.int (0 : Int32)), .val (.int (1 : Int32)), .val (.int (2 : Int32)), .val (.int mn), .val (.int mx), .val (.double (9218868437227405312 : UInt64)), .second, .unset, .unset, .unset, .unset, .unset, .unset, .unset]) rfl ?_
    show Steps p.tables e below (T2.setTop (mkF m 35 #[.val (.int p0), .val (.int p1), .val (.int p2), .val (.int p3), .val (.int p4), .val (.int (0 : Int32)), .val (.int (1 : Int32)), .val (.int (2 : Int32)), .val (.int mn), .val (.int mx), .val (.double (9218868437227405312 : UInt64)), .second, .unset, .unset, .unset, .unset, .unset, .unset, .unset] [])) _
    refine X2.ldc2DoubleC hx hown (mvT hZ (hw _ (List.mem_of_getElem? (i := 8) rfl))) (g := (mkF m 35 #[.val (.int p0), .val (.int p1), .val (.int p2), .val (.int p3), .val (.int p4), .val (.int (0 : Int32)), .val (.int (1 : Int32)), .val (.int (2 : Int32)), .val (.int mn), .val (.int mx), .val (.double (9218868437227405312 : UInt64)), .second, .unset, .unset, .unset, .unset, .unset, .unset, .unset] [])) rfl (hb hby at_35) _ ?_
    show Steps p.tables e below (T2.setTop (mkF m 38 #[.val (.int p0), .val (.int p1), .val (.int p2), .val (.int p3), .val (.int p4), .val (.int (0 : Int32)), .val (.int (1 : Int32)), .val (.int (2 : Int32)), .val (.int mn), .val (.int mx), .val (.double (9218868437227405312 : UInt64)), .second, .unset, .unset, .unset, .unset, .unset, .unset, .unset] [(.double (18442240474082181120 : UInt64))])) _
    refine XS.dstore X2.here hx rfl (hb hby at_38) rfl (l' := #[.val (.int p0), .val (.int p1), .val (.int p2), .val (.int p3), .val (.int p4), .val (.int (0 : Int32)), .val (.int (1 : Int32)), .val (.int (2 : Int32)), .val (.int mn), .val (.int mx), .val (.double (9218868437227405312 : UInt64)), .second, .val (.double (18442240474082181120 : UInt64)), .second, .unset, .unset, .unset, .unset, .unset]) rfl ?_
    show Steps p.tables e below (T2.setTop (mkF m 40 #[.val (.int p0), .val (.int p1), .val (.int p2), .val (.int p3), .val (.int p4), .val (.int (0 : Int32)), .val (.int (1 : Int32)), .val (.int (2 : Int32)), .val (.int mn), .val (.int mx), .val (.double (9218868437227405312 : UInt64)), .second, .val (.double (18442240474082181120 : UInt64)), .second, .unset, .unset, .unset, .unset, .unset] [])) _
    refine XS.iconst X2.here hx rfl (hb hby at_40) ?_
    show Steps p.tables e below (T2.setTop (mkF m 41 #[.val (.int p0), .val (.int p1), .val (.int p2), .val (.int p3), .val (.int p4), .val (.int (0 : Int32)), .val (.int (1 : Int32)), .val (.int (2 : Int32)), .val (.int mn), .val (.int mx), .val (.double (9218868437227405312 : UInt64)), .second, .val (.double (18442240474082181120 : UInt64)), .second, .unset, .unset, .unset, .unset, .unset] [(.int (2 : Int32))])) _
    refine st3 _ ?_
    show Steps p.tables e below (T3.setTop (mkF m 43 #[.val (.int p0), .val (.int p1), .val (.int p2), .val (.int p3), .val (.int p4), .val (.int (0 : Int32)), .val (.int (1 : Int32)), .val (.int (2 : Int32)), .val (.int mn), .val (.int mx), .val (.double (9218868437227405312 : UInt64)), .second, .val (.double (18442240474082181120 : UInt64)), .second, .unset, .unset, .unset, .unset, .unset] [(.ref b3)])) _
    refine XS.astore X3.here hx rfl (hb hby at_43) rfl rfl (l' := #[.val (.int p0), .val (.int p1), .val (.int p2), .val (.int p3), .val (.int p4), .val (.int (0 : Int32)), .val (.int (1 : Int32)), .val (.int (2 : Int32)), .val (.int mn), .val (.int mx), .val (.double (9218868437227405312 : UInt64)), .second, .val (.double (18442240474082181120 : UInt64)), .second, .val (.ref b3), .unset, .unset, .unset, .unset]) rfl ?_
    show Steps p.tables e below (T3.setTop (mkF m 45 #[.val (.int p0), .val (.int p1), .val (.int p2), .val (.int p3), .val (.int p4), .val (.int (0 : Int32)), .val (.int (1 : Int32)), .val (.int (2 : Int32)), .val (.int mn), .val (.int mx), .val (.double (9218868437227405312 : UInt64)), .second, .val (.double (18442240474082181120 : UInt64)), .second, .val (.ref b3), .unset, .unset, .unset, .unset] [])) _
    refine XS.iconst X3.here hx rfl (hb hby at_45) ?_
    show Steps p.tables e below (T3.setTop (mkF m 46 #[.val (.int p0), .val (.int p1), .val (.int p2), .val (.int p3), .val (.int p4), .val (.int (0 : Int32)), .val (.int (1 : Int32)), .val (.int (2 : Int32)), .val (.int mn), .val (.int mx), .val (.double (9218868437227405312 : UInt64)), .second, .val (.double (18442240474082181120 : UInt64)), .second, .val (.ref b3), .unset, .unset, .unset, .unset] [(.int (2 : Int32))])) _
    refine st4 _ ?_
    show Steps p.tables e below (T4.setTop (mkF m 48 #[.val (.int p0), .val (.int p1), .val (.int p2), .val (.int p3), .val (.int p4), .val (.int (0 : Int32)), .val (.int (1 : Int32)), .val (.int (2 : Int32)), .val (.int mn), .val (.int mx), .val (.double (9218868437227405312 : UInt64)), .second, .val (.double (18442240474082181120 : UInt64)), .second, .val (.ref b3), .unset, .unset, .unset, .unset] [(.ref b4)])) _
    refine XS.astore X4.here hx rfl (hb hby at_48) rfl rfl (l' := #[.val (.int p0), .val (.int p1), .val (.int p2), .val (.int p3), .val (.int p4), .val (.int (0 : Int32)), .val (.int (1 : Int32)), .val (.int (2 : Int32)), .val (.int mn), .val (.int mx), .val (.double (9218868437227405312 : UInt64)), .second, .val (.double (18442240474082181120 : UInt64)), .second, .val (.ref b3), .val (.ref b4), .unset, .unset, .unset]) rfl ?_
    show Steps p.tables e below (T4.setTop (mkF m 50 #[.val (.int p0), .val (.int p1), .val (.int p2), .val (.int p3), .val (.int p4), .val (.int (0 : Int32)), .val (.int (1 : Int32)), .val (.int (2 : Int32)), .val (.int mn), .val (.int mx), .val (.double (9218868437227405312 : UInt64)), .second, .val (.double (18442240474082181120 : UInt64)), .second, .val (.ref b3), .val (.ref b4), .unset, .unset, .unset] [])) _
    refine XS.aload X4.here hx rfl (hb hby at_50) rfl rfl ?_
    show Steps p.tables e below (T4.setTop (mkF m 52 #[.val (.int p0), .val (.int p1), .val (.int p2), .val (.int p3), .val (.int p4), .val (.int (0 : Int32)), .val (.int (1 : Int32)), .val (.int (2 : Int32)), .val (.int mn), .val (.int mx), .val (.double (9218868437227405312 : UInt64)), .second, .val (.double (18442240474082181120 : UInt64)), .second, .val (.ref b3), .val (.ref b4), .unset, .unset, .unset] [(.ref b3)])) _
    refine XS.iload X4.here hx rfl (hb hby at_52) rfl ?_
    show Steps p.tables e below (T4.setTop (mkF m 54 #[.val (.int p0), .val (.int p1), .val (.int p2), .val (.int p3), .val (.int p4), .val (.int (0 : Int32)), .val (.int (1 : Int32)), .val (.int (2 : Int32)), .val (.int mn), .val (.int mx), .val (.double (9218868437227405312 : UInt64)), .second, .val (.double (18442240474082181120 : UInt64)), .second, .val (.ref b3), .val (.ref b4), .unset, .unset, .unset] [(.int (0 : Int32)), (.ref b3)])) _
    refine XS.iload X4.here hx rfl (hb hby at_54) rfl ?_
    show Steps p.tables e below (T4.setTop (mkF m 56 #[.val (.int p0), .val (.int p1), .val (.int p2), .val (.int p3), .val (.int p4), .val (.int (0 : Int32)), .val (.int (1 : Int32)), .val (.int (2 : Int32)), .val (.int mn), .val (.int mx), .val (.double (9218868437227405312 : UInt64)), .second, .val (.double (18442240474082181120 : UInt64)), .second, .val (.ref b3), .val (.ref b4), .unset, .unset, .unset] [(.int (2 : Int32)), (.int (0 : Int32)), (.ref b3)])) _
    refine XS.iconst X4.here hx rfl (hb hby at_56) ?_
    show Steps p.tables e below (T4.setTop (mkF m 57 #[.val (.int p0), .val (.int p1), .val (.int p2), .val (.int p3), .val (.int p4), .val (.int (0 : Int32)), .val (.int (1 : Int32)), .val (.int (2 : Int32)), .val (.int mn), .val (.int mx), .val (.double (9218868437227405312 : UInt64)), .second, .val (.double (18442240474082181120 : UInt64)), .second, .val (.ref b3), .val (.ref b4), .unset, .unset, .unset] [(.int (2 : Int32)), (.int (2 : Int32)), (.int (0 : Int32)), (.ref b3)])) _
    refine XS.icmpYes X4.here hx rfl (pc0 := 57) (pc' := 66) rfl (hb hby at_57) rfl (teq (by decide : (2 : Int32) = (2 : Int32))).1 (by decide) (by decide) ?_
    show Steps p.tables e below (T4.setTop (mkF m 66 #[.val (.int p0), .val (.int p1), .val (.int p2), .val (.int p3), .val (.int p4), .val (.int (0 : Int32)), .val (.int (1 : Int32)), .val (.int (2 : Int32)), .val (.int mn), .val (.int mx), .val (.double (9218868437227405312 : UInt64)), .second, .val (.double (18442240474082181120 : UInt64)), .second, .val (.ref b3), .val (.ref b4), .unset, .unset, .unset] [(.int (0 : Int32)), (.ref b3)])) _
    refine XS.dload X4.here hx rfl (hb hby at_66) rfl ?_
    show Steps p.tables e below (T4.setTop (mkF m 68 #[.val (.int p0), .val (.int p1), .val (.int p2), .val (.int p3), .val (.int p4), .val (.int (0 : Int32)), .val (.int (1 : Int32)), .val (.int (2 : Int32)), .val (.int mn), .val (.int mx), .val (.double (9218868437227405312 : UInt64)), .second, .val (.double (18442240474082181120 : UInt64)), .second, .val (.ref b3), .val (.ref b4), .unset, .unset, .unset] [(.double (18442240474082181120 : UInt64)), (.int (0 : Int32)), (.ref b3)])) _
    refine XS.goto X4.here hx rfl (pc0 := 68) (pc' := 74) rfl (hb hby at_68) (by decide) (by decide) ?_
    show Steps p.tables e below (T4.setTop (mkF m 74 #[.val (.int p0), .val (.int p1), .val (.int p2), .val (.int p3), .val (.int p4), .val (.int (0 : Int32)), .val (.int (1 : Int32)), .val (.int (2 : Int32)), .val (.int mn), .val (.int mx), .val (.double (9218868437227405312 : UInt64)), .second, .val (.double (18442240474082181120 : UInt64)), .second, .val (.ref b3), .val (.ref b4), .unset, .unset, .unset] [(.double (18442240474082181120 : UInt64)), (.int (0 : Int32)), (.ref b3)])) _
    refine st7 _ ?_
    show Steps p.tables e below (T7.setTop (mkF m 75 #[.val (.int p0), .val (.int p1), .val (.int p2), .val (.int p3), .val (.int p4), .val (.int (0 : Int32)), .val (.int (1 : Int32)), .val (.int (2 : Int32)), .val (.int mn), .val (.int mx), .val (.double (9218868437227405312 : UInt64)), .second, .val (.double (18442240474082181120 : UInt64)), .second, .val (.ref b3), .val (.ref b4), .unset, .unset, .unset] [])) _
    refine XS.aload X7.here hx rfl (hb hby at_75) rfl rfl ?_
    show Steps p.tables e below (T7.setTop (mkF m 77 #[.val (.int p0), .val (.int p1), .val (.int p2), .val (.int p3), .val (.int p4), .val (.int (0 : Int32)), .val (.int (1 : Int32)), .val (.int (2 : Int32)), .val (.int mn), .val (.int mx), .val (.double (9218868437227405312 : UInt64)), .second, .val (.double (18442240474082181120 : UInt64)), .second, .val (.ref b3), .val (.ref b4), .unset, .unset, .unset] [(.ref b4)])) _
    refine XS.iload X7.here hx rfl (hb hby at_77) rfl ?_
    show Steps p.tables e below (T7.setTop (mkF m 79 #[.val (.int p0), .val (.int p1), .val (.int p2), .val (.int p3), .val (.int p4), .val (.int (0 : Int32)), .val (.int (1 : Int32)), .val (.int (2 : Int32)), .val (.int mn), .val (.int mx), .val (.double (9218868437227405312 : UInt64)), .second, .val (.double (18442240474082181120 : UInt64)), .second, .val (.ref b3), .val (.ref b4), .unset, .unset, .unset] [(.int (0 : Int32)), (.ref b4)])) _
    refine XS.iload X7.here hx rfl (hb hby at_79) rfl ?_
    show Steps p.tables e below (T7.setTop (mkF m 81 #[.val (.int p0), .val (.int p1), .val (.int p2), .val (.int p3), .val (.int p4), .val (.int (0 : Int32)), .val (.int (1 : Int32)), .val (.int (2 : Int32)), .val (.int mn), .val (.int mx), .val (.double (9218868437227405312 : UInt64)), .second, .val (.double (18442240474082181120 : UInt64)), .second, .val (.ref b3), .val (.ref b4), .unset, .unset, .unset] [(.int (2 : Int32)), (.int (0 : Int32)), (.ref b4)])) _
    refine XS.iconst X7.here hx rfl (hb hby at_81) ?_
    show Steps p.tables e below (T7.setTop (mkF m 82 #[.val (.int p0), .val (.int p1), .val (.int p2), .val (.int p3), .val (.int p4), .val (.int (0 : Int32)), .val (.int (1 : Int32)), .val (.int (2 : Int32)), .val (.int mn), .val (.int mx), .val (.double (9218868437227405312 : UInt64)), .second, .val (.double (18442240474082181120 : UInt64)), .second, .val (.ref b3), .val (.ref b4), .unset, .unset, .unset] [(.int (1 : Int32)), (.int (2 : Int32)), (.int (0 : Int32)), (.ref b4)])) _
    refine XS.icmpNo X7.here hx rfl (hb hby at_82) rfl (feq (by decide : ¬ ((2 : Int32) = (1 : Int32)))).1 ?_
    show Steps p.tables e below (T7.setTop (mkF m 85 #[.val (.int p0), .val (.int p1), .val (.int p2), .val (.int p3), .val (.int p4), .val (.int (0 : Int32)), .val (.int (1 : Int32)), .val (.int (2 : Int32)), .val (.int mn), .val (.int mx), .val (.double (9218868437227405312 : UInt64)), .second, .val (.double (18442240474082181120 : UInt64)), .second, .val (.ref b3), .val (.ref b4), .unset, .unset, .unset] [(.int (0 : Int32)), (.ref b4)])) _
    refine XS.iload X7.here hx rfl (hb hby at_85) rfl ?_
    show Steps p.tables e below (T7.setTop (mkF m 87 #[.val (.int p0), .val (.int p1), .val (.int p2), .val (.int p3), .val (.int p4), .val (.int (0 : Int32)), .val (.int (1 : Int32)), .val (.int (2 : Int32)), .val (.int mn), .val (.int mx), .val (.double (9218868437227405312 : UInt64)), .second, .val (.double (18442240474082181120 : UInt64)), .second, .val (.ref b3), .val (.ref b4), .unset, .unset, .unset] [(.int (2 : Int32)), (.int (0 : Int32)), (.ref b4)])) _
    refine XS.iconst X7.here hx rfl (hb hby at_87) ?_
    show Steps p.tables e below (T7.setTop (mkF m 88 #[.val (.int p0), .val (.int p1), .val (.int p2), .val (.int p3), .val (.int p4), .val (.int (0 : Int32)), .val (.int (1 : Int32)), .val (.int (2 : Int32)), .val (.int mn), .val (.int mx), .val (.double (9218868437227405312 : UInt64)), .second, .val (.double (18442240474082181120 : UInt64)), .second, .val (.ref b3), .val (.ref b4), .unset, .unset, .unset] [(.int (2 : Int32)), (.int (2 : Int32)), (.int (0 : Int32)), (.ref b4)])) _
    refine XS.icmpNo X7.here hx rfl (hb hby at_88) rfl (teq (by decide : (2 : Int32) = (2 : Int32))).2 ?_
    show Steps p.tables e below (T7.setTop (mkF m 91 #[.val (.int p0), .val (.int p1), .val (.int p2), .val (.int p3), .val (.int p4), .val (.int (0 : Int32)), .val (.int (1 : Int32)), .val (.int (2 : Int32)), .val (.int mn), .val (.int mx), .val (.double (9218868437227405312 : UInt64)), .second, .val (.double (18442240474082181120 : UInt64)), .second, .val (.ref b3), .val (.ref b4), .unset, .unset, .unset] [(.int (0 : Int32)), (.ref b4)])) _
    refine XS.dload X7.here hx rfl (hb hby at_91) rfl ?_
    show Steps p.tables e below (T7.setTop (mkF m 93 #[.val (.int p0), .val (.int p1), .val (.int p2), .val (.int p3), .val (.int p4), .val (.int (0 : Int32)), .val (.int (1 : Int32)), .val (.int (2 : Int32)), .val (.int mn), .val (.int mx), .val (.double (9218868437227405312 : UInt64)), .second, .val (.double (18442240474082181120 : UInt64)), .second, .val (.ref b3), .val (.ref b4), .unset, .unset, .unset] [(.double (9218868437227405312 : UInt64)), (.int (0 : Int32)), (.ref b4)])) _
    refine XS.goto X7.here hx rfl (pc0 := 93) (pc' := 99) rfl (hb hby at_93) (by decide) (by decide) ?_
    show Steps p.tables e below (T7.setTop (mkF m 99 #[.val (.int p0), .val (.int p1), .val (.int p2), .val (.int p3), .val (.int p4), .val (.int (0 : Int32)), .val (.int (1 : Int32)), .val (.int (2 : Int32)), .val (.int mn), .val (.int mx), .val (.double (9218868437227405312 : UInt64)), .second, .val (.double (18442240474082181120 : UInt64)), .second, .val (.ref b3), .val (.ref b4), .unset, .unset, .unset] [(.double (9218868437227405312 : UInt64)), (.int (0 : Int32)), (.ref b4)])) _
    refine st11 _ ?_
    show Steps p.tables e below (T11.setTop (mkF m 100 #[.val (.int p0), .val (.int p1), .val (.int p2), .val (.int p3), .val (.int p4), .val (.int (0 : Int32)), .val (.int (1 : Int32)), .val (.int (2 : Int32)), .val (.int mn), .val (.int mx), .val (.double (9218868437227405312 : UInt64)), .second, .val (.double (18442240474082181120 : UInt64)), .second, .val (.ref b3), .val (.ref b4), .unset, .unset, .unset] [])) _
    refine XS.aload X11.here hx rfl (hb hby at_100) rfl rfl ?_
    show Steps p.tables e below (T11.setTop (mkF m 102 #[.val (.int p0), .val (.int p1), .val (.int p2), .val (.int p3), .val (.int p4), .val (.int (0 : Int32)), .val (.int (1 : Int32)), .val (.int (2 : Int32)), .val (.int mn), .val (.int mx), .val (.double (9218868437227405312 : UInt64)), .second, .val (.double (18442240474082181120 : UInt64)), .second, .val (.ref b3), .val (.ref b4), .unset, .unset, .unset] [(.ref b3)])) _
    refine XS.iload X11.here hx rfl (hb hby at_102) rfl ?_
    show Steps p.tables e below (T11.setTop (mkF m 104 #[.val (.int p0), .val (.int p1), .val (.int p2), .val (.int p3), .val (.int p4), .val (.int (0 : Int32)), .val (.int (1 : Int32)), .val (.int (2 : Int32)), .val (.int mn), .val (.int mx), .val (.double (9218868437227405312 : UInt64)), .second, .val (.double (18442240474082181120 : UInt64)), .second, .val (.ref b3), .val (.ref b4), .unset, .unset, .unset] [(.int (1 : Int32)), (.ref b3)])) _
    refine XS.iload X11.here hx rfl (hb hby at_104) rfl ?_
    show Steps p.tables e below (T11.setTop (mkF m 106 #[.val (.int p0), .val (.int p1), .val (.int p2), .val (.int p3), .val (.int p4), .val (.int (0 : Int32)), .val (.int (1 : Int32)), .val (.int (2 : Int32)), .val (.int mn), .val (.int mx), .val (.double (9218868437227405312 : UInt64)), .second, .val (.double (18442240474082181120 : UInt64)), .second, .val (.ref b3), .val (.ref b4), .unset, .unset, .unset] [(.int p4), (.int (1 : Int32)), (.ref b3)])) _
    refine XS.i2dS X11.here hx rfl (hb hby at_106) rfl (v := (FP.i2d p4)) rfl ?_
    show Steps p.tables e below (T11.setTop (mkF m 107 #[.val (.int p0), .val (.int p1), .val (.int p2), .val (.int p3), .val (.int p4), .val (.int (0 : Int32)), .val (.int (1 : Int32)), .val (.int (2 : Int32)), .val (.int mn), .val (.int mx), .val (.double (9218868437227405312 : UInt64)), .second, .val (.double (18442240474082181120 : UInt64)), .second, .val (.ref b3), .val (.ref b4), .unset, .unset, .unset] [(.double (FP.i2d p4)), (.int (1 : Int32)), (.ref b3)])) _
    refine st15 _ ?_
    show Steps p.tables e below (T15.setTop (mkF m 108 #[.val (.int p0), .val (.int p1), .val (.int p2), .val (.int p3), .val (.int p4), .val (.int (0 : Int32)), .val (.int (1 : Int32)), .val (.int (2 : Int32)), .val (.int mn), .val (.int mx), .val (.double (9218868437227405312 : UInt64)), .second, .val (.double (18442240474082181120 : UInt64)), .second, .val (.ref b3), .val (.ref b4), .unset, .unset, .unset] [])) _
    refine XS.aload X15.here hx rfl (hb hby at_108) rfl rfl ?_
    show Steps p.tables e below (T15.setTop (mkF m 110 #[.val (.int p0), .val (.int p1), .val (.int p2), .val (.int p3), .val (.int p4), .val (.int (0 : Int32)), .val (.int (1 : Int32)), .val (.int (2 : Int32)), .val (.int mn), .val (.int mx), .val (.double (9218868437227405312 : UInt64)), .second, .val (.double (18442240474082181120 : UInt64)), .second, .val (.ref b3), .val (.ref b4), .unset, .unset, .unset] [(.ref b4)])) _
    refine XS.iload X15.here hx rfl (hb hby at_110) rfl ?_
    show Steps p.tables e below (T15.setTop (mkF m 112 #[.val (.int p0), .val (.int p1), .val (.int p2), .val (.int p3), .val (.int p4), .val (.int (0 : Int32)), .val (.int (1 : Int32)), .val (.int (2 : Int32)), .val (.int mn), .val (.int mx), .val (.double (9218868437227405312 : UInt64)), .second, .val (.double (18442240474082181120 : UInt64)), .second, .val (.ref b3), .val (.ref b4), .unset, .unset, .unset] [(.int (1 : Int32)), (.ref b4)])) _
    refine XS.iloadN X15.here hx rfl (hb hby at_112) rfl ?_
    show Steps p.tables e below (T15.setTop (mkF m 113 #[.val (.int p0), .val (.int p1), .val (.int p2), .val (.int p3), .val (.int p4), .val (.int (0 : Int32)), .val (.int (1 : Int32)), .val (.int (2 : Int32)), .val (.int mn), .val (.int mx), .val (.double (9218868437227405312 : UInt64)), .second, .val (.double (18442240474082181120 : UInt64)), .second, .val (.ref b3), .val (.ref b4), .unset, .unset, .unset] [(.int p2), (.int (1 : Int32)), (.ref b4)])) _
    refine XS.iconst X15.here hx rfl (hb hby at_113) ?_
    show Steps p.tables e below (T15.setTop (mkF m 114 #[.val (.int p0), .val (.int p1), .val (.int p2), .val (.int p3), .val (.int p4), .val (.int (0 : Int32)), .val (.int (1 : Int32)), .val (.int (2 : Int32)), .val (.int mn), .val (.int mx), .val (.double (9218868437227405312 : UInt64)), .second, .val (.double (18442240474082181120 : UInt64)), .second, .val (.ref b3), .val (.ref b4), .unset, .unset, .unset] [(.int (2 : Int32)), (.int p2), (.int (1 : Int32)), (.ref b4)])) _
    refine XS.ishr X15.here hx rfl (hb hby at_114) rfl ?_
    show Steps p.tables e below (T15.setTop (mkF m 115 #[.val (.int p0), .val (.int p1), .val (.int p2), .val (.int p3), .val (.int p4), .val (.int (0 : Int32)), .val (.int (1 : Int32)), .val (.int (2 : Int32)), .val (.int mn), .val (.int mx), .val (.double (9218868437227405312 : UInt64)), .second, .val (.double (18442240474082181120 : UInt64)), .second, .val (.ref b3), .val (.ref b4), .unset, .unset, .unset] [(.int (p2 >>> ((2 : Int32) &&& 31))), (.int (1 : Int32)), (.ref b4)])) _
    refine XS.iconst X15.here hx rfl (hb hby at_115) ?_
    show Steps p.tables e below (T15.setTop (mkF m 116 #[.val (.int p0), .val (.int p1), .val (.int p2), .val (.int p3), .val (.int p4), .val (.int (0 : Int32)), .val (.int (1 : Int32)), .val (.int (2 : Int32)), .val (.int mn), .val (.int mx), .val (.double (9218868437227405312 : UInt64)), .second, .val (.double (18442240474082181120 : UInt64)), .second, .val (.ref b3), .val (.ref b4), .unset, .unset, .unset] [(.int (1 : Int32)), (.int (p2 >>> ((2 : Int32) &&& 31))), (.int (1 : Int32)), (.ref b4)])) _
    refine XS.iand X15.here hx rfl (hb hby at_116) rfl ?_
    show Steps p.tables e below (T15.setTop (mkF m 117 #[.val (.int p0), .val (.int p1), .val (.int p2), .val (.int p3), .val (.int p4), .val (.int (0 : Int32)), .val (.int (1 : Int32)), .val (.int (2 : Int32)), .val (.int mn), .val (.int mx), .val (.double (9218868437227405312 : UInt64)), .second, .val (.double (18442240474082181120 : UInt64)), .second, .val (.ref b3), .val (.ref b4), .unset, .unset, .unset] [(.int ((p2 >>> ((2 : Int32) &&& 31)) &&& (1 : Int32))), (.int (1 : Int32)), (.ref b4)])) _
    refine jn18 _ ?_
    show Steps p.tables e below (T15.setTop (mkF m 128 #[.val (.int p0), .val (.int p1), .val (.int p2), .val (.int p3), .val (.int p4), .val (.int (0 : Int32)), .val (.int (1 : Int32)), .val (.int (2 : Int32)), .val (.int mn), .val (.int mx), .val (.double (9218868437227405312 : UInt64)), .second, .val (.double (18442240474082181120 : UInt64)), .second, .val (.ref b3), .val (.ref b4), .unset, .unset, .unset] [(.double ub), (.int (1 : Int32)), (.ref b4)])) _
    refine st20 _ ?_
    show Steps p.tables e below (T20.setTop (mkF m 129 #[.val (.int p0), .val (.int p1), .val (.int p2), .val (.int p3), .val (.int p4), .val (.int (0 : Int32)), .val (.int (1 : Int32)), .val (.int (2 : Int32)), .val (.int mn), .val (.int mx), .val (.double (9218868437227405312 : UInt64)), .second, .val (.double (18442240474082181120 : UInt64)), .second, .val (.ref b3), .val (.ref b4), .unset, .unset, .unset] [])) _
    refine st23 _ ?_
    show Steps p.tables e below (T23.setTop (mkF m 132 #[.val (.int p0), .val (.int p1), .val (.int p2), .val (.int p3), .val (.int p4), .val (.int (0 : Int32)), .val (.int (1 : Int32)), .val (.int (2 : Int32)), .val (.int mn), .val (.int mx), .val (.double (9218868437227405312 : UInt64)), .second, .val (.double (18442240474082181120 : UInt64)), .second, .val (.ref b3), .val (.ref b4), .unset, .unset, .unset] [(.ref b23)])) _
    refine XS.dup X23.here hx rfl (hb hby at_132) rfl rfl ?_
    show Steps p.tables e below (T23.setTop (mkF m 133 #[.val (.int p0), .val (.int p1), .val (.int p2), .val (.int p3), .val (.int p4), .val (.int (0 : Int32)), .val (.int (1 : Int32)), .val (.int (2 : Int32)), .val (.int mn), .val (.int mx), .val (.double (9218868437227405312 : UInt64)), .second, .val (.double (18442240474082181120 : UInt64)), .second, .val (.ref b3), .val (.ref b4), .unset, .unset, .unset] [(.ref b23), (.ref b23)])) _
    refine XS.aload X23.here hx rfl (hb hby at_133) rfl rfl ?_
    show Steps p.tables e below (T23.setTop (mkF m 135 #[.val (.int p0), .val (.int p1), .val (.int p2), .val (.int p3), .val (.int p4), .val (.int (0 : Int32)), .val (.int (1 : Int32)), .val (.int (2 : Int32)), .val (.int mn), .val (.int mx), .val (.double (9218868437227405312 : UInt64)), .second, .val (.double (18442240474082181120 : UInt64)), .second, .val (.ref b3), .val (.ref b4), .unset, .unset, .unset] [(.ref b3), (.ref b23), (.ref b23)])) _
    refine XS.aload X23.here hx rfl (hb hby at_135) rfl rfl ?_
    show Steps p.tables e below (T23.setTop (mkF m 137 #[.val (.int p0), .val (.int p1), .val (.int p2), .val (.int p3), .val (.int p4), .val (.int (0 : Int32)), .val (.int (1 : Int32)), .val (.int (2 : Int32)), .val (.int mn), .val (.int mx), .val (.double (9218868437227405312 : UInt64)), .second, .val (.double (18442240474082181120 : UInt64)), .second, .val (.ref b3), .val (.ref b4), .unset, .unset, .unset] [(.ref b4), (.ref b3), (.ref b23), (.ref b23)])) _
    refine XS.iconst X23.here hx rfl (hb hby at_137) ?_
    show Steps p.tables e below (T23.setTop (mkF m 138 #[.val (.int p0), .val (.int p1), .val (.int p2), .val (.int p3), .val (.int p4), .val (.int (0 : Int32)), .val (.int (1 : Int32)), .val (.int (2 : Int32)), .val (.int mn), .val (.int mx), .val (.double (9218868437227405312 : UInt64)), .second, .val (.double (18442240474082181120 : UInt64)), .second, .val (.ref b3), .val (.ref b4), .unset, .unset, .unset] [(.int (2 : Int32)), (.ref b4), (.ref b3), (.ref b23), (.ref b23)])) _
    refine st26 _ ?_
    show Steps p.tables e below (T26.setTop (mkF m 140 #[.val (.int p0), .val (.int p1), .val (.int p2), .val (.int p3), .val (.int p4), .val (.int (0 : Int32)), .val (.int (1 : Int32)), .val (.int (2 : Int32)), .val (.int mn), .val (.int mx), .val (.double (9218868437227405312 : UInt64)), .second, .val (.double (18442240474082181120 : UInt64)), .second, .val (.ref b3), .val (.ref b4), .unset, .unset, .unset] [(.ref b26), (.ref b4), (.ref b3), (.ref b23), (.ref b23)])) _
    refine XS.dup X26.here hx rfl (hb hby at_140) rfl rfl ?_
    show Steps p.tables e below (T26.setTop (mkF m 141 #[.val (.int p0), .val (.int p1), .val (.int p2), .val (.int p3), .val (.int p4), .val (.int (0 : Int32)), .val (.int (1 : Int32)), .val (.int (2 : Int32)), .val (.int mn), .val (.int mx), .val (.double (9218868437227405312 : UInt64)), .second, .val (.double (18442240474082181120 : UInt64)), .second, .val (.ref b3), .val (.ref b4), .unset, .unset, .unset] [(.ref b26), (.ref b26), (.ref b4), (.ref b3), (.ref b23), (.ref b23)])) _
    refine XS.iconst X26.here hx rfl (hb hby at_141) ?_
    show Steps p.tables e below (T26.setTop (mkF m 142 #[.val (.int p0), .val (.int p1), .val (.int p2), .val (.int p3), .val (.int p4), .val (.int (0 : Int32)), .val (.int (1 : Int32)), .val (.int (2 : Int32)), .val (.int mn), .val (.int mx), .val (.double (9218868437227405312 : UInt64)), .second, .val (.double (18442240474082181120 : UInt64)), .second, .val (.ref b3), .val (.ref b4), .unset, .unset, .unset] [(.int (0 : Int32)), (.ref b26), (.ref b26), (.ref b4), (.ref b3), (.ref b23), (.ref b23)])) _
    refine XS.iconst X26.here hx rfl (hb hby at_142) ?_
    show Steps p.tables e below (T26.setTop (mkF m 143 #[.val (.int p0), .val (.int p1), .val (.int p2), .val (.int p3), .val (.int p4), .val (.int (0 : Int32)), .val (.int (1 : Int32)), .val (.int (2 : Int32)), .val (.int mn), .val (.int mx), .val (.double (9218868437227405312 : UInt64)), .second, .val (.double (18442240474082181120 : UInt64)), .second, .val (.ref b3), .val (.ref b4), .unset, .unset, .unset] [(.int (-1 : Int32)), (.int (0 : Int32)), (.ref b26), (.ref b26), (.ref b4), (.ref b3), (.ref b23), (.ref b23)])) _
    refine st34 _ ?_
    show Steps p.tables e below (T34.setTop (mkF m 144 #[.val (.int p0), .val (.int p1), .val (.int p2), .val (.int p3), .val (.int p4), .val (.int (0 : Int32)), .val (.int (1 : Int32)), .val (.int (2 : Int32)), .val (.int mn), .val (.int mx), .val (.double (9218868437227405312 : UInt64)), .second, .val (.double (18442240474082181120 : UInt64)), .second, .val (.ref b3), .val (.ref b4), .unset, .unset, .unset] [(.ref b26), (.ref b4), (.ref b3), (.ref b23), (.ref b23)])) _
    refine XS.dup X34.here hx rfl (hb hby at_144) rfl rfl ?_
    show Steps p.tables e below (T34.setTop (mkF m 145 #[.val (.int p0), .val (.int p1), .val (.int p2), .val (.int p3), .val (.int p4), .val (.int (0 : Int32)), .val (.int (1 : Int32)), .val (.int (2 : Int32)), .val (.int mn), .val (.int mx), .val (.double (9218868437227405312 : UInt64)), .second, .val (.double (18442240474082181120 : UInt64)), .second, .val (.ref b3), .val (.ref b4), .unset, .unset, .unset] [(.ref b26), (.ref b26), (.ref b4), (.ref b3), (.ref b23), (.ref b23)])) _
    refine XS.iconst X34.here hx rfl (hb hby at_145) ?_
    show Steps p.tables e below (T34.setTop (mkF m 146 #[.val (.int p0), .val (.int p1), .val (.int p2), .val (.int p3), .val (.int p4), .val (.int (0 : Int32)), .val (.int (1 : Int32)), .val (.int (2 : Int32)), .val (.int mn), .val (.int mx), .val (.double (9218868437227405312 : UInt64)), .second, .val (.double (18442240474082181120 : UInt64)), .second, .val (.ref b3), .val (.ref b4), .unset, .unset, .unset] [(.int (1 : Int32)), (.ref b26), (.ref b26), (.ref b4), (.ref b3), (.ref b23), (.ref b23)])) _
    refine XS.iconst X34.here hx rfl (hb hby at_146) ?_
    show Steps p.tables e below (T34.setTop (mkF m 147 #[.val (.int p0), .val (.int p1), .val (.int p2), .val (.int p3), .val (.int p4), .val (.int (0 : Int32)), .val (.int (1 : Int32)), .val (.int (2 : Int32)), .val (.int mn), .val (.int mx), .val (.double (9218868437227405312 : UInt64)), .second, .val (.double (18442240474082181120 : UInt64)), .second, .val (.ref b3), .val (.ref b4), .unset, .unset, .unset] [(.int (-1 : Int32)), (.int (1 : Int32)), (.ref b26), (.ref b26), (.ref b4), (.ref b3), (.ref b23), (.ref b23)])) _
    refine st44 _ ?_
    show Steps p.tables e below (T44.setTop (mkF m 148 #[.val (.int p0), .val (.int p1), .val (.int p2), .val (.int p3), .val (.int p4), .val (.int (0 : Int32)), .val (.int (1 : Int32)), .val (.int (2 : Int32)), .val (.int mn), .val (.int mx), .val (.double (9218868437227405312 : UInt64)), .second, .val (.double (18442240474082181120 : UInt64)), .second, .val (.ref b3), .val (.ref b4), .unset, .unset, .unset] [(.ref b26), (.ref b4), (.ref b3), (.ref b23), (.ref b23)])) _
    refine st53.trans ?_
    show Steps p.tables e below (T53.setTop (mkF m 151 #[.val (.int p0), .val (.int p1), .val (.int p2), .val (.int p3), .val (.int p4), .val (.int (0 : Int32)), .val (.int (1 : Int32)), .val (.int (2 : Int32)), .val (.int mn), .val (.int mx), .val (.double (9218868437227405312 : UInt64)), .second, .val (.double (18442240474082181120 : UInt64)), .second, .val (.ref b3), .val (.ref b4), .unset, .unset, .unset] [(.ref b23)])) _
    refine XS.astore X53.here hx rfl (hb hby at_151) rfl rfl (l' := #[.val (.int p0), .val (.int p1), .val (.int p2), .val (.int p3), .val (.int p4), .val (.int (0 : Int32)), .val (.int (1 : Int32)), .val (.int (2 : Int32)), .val (.int mn), .val (.int mx), .val (.double (9218868437227405312 : UInt64)), .second, .val (.double (18442240474082181120 : UInt64)), .second, .val (.ref b3), .val (.ref b4), .val (.ref b23), .unset, .unset]) rfl ?_
    show Steps p.tables e below (T53.setTop (mkF m 153 #[.val (.int p0), .val (.int p1), .val (.int p2), .val (.int p3), .val (.int p4), .val (.int (0 : Int32)), .val (.int (1 : Int32)), .val (.int (2 : Int32)), .val (.int mn), .val (.int mx), .val (.double (9218868437227405312 : UInt64)), .second, .val (.double (18442240474082181120 : UInt64)), .second, .val (.ref b3), .val (.ref b4), .val (.ref b23), .unset, .unset] [])) _
    refine XS.aload X53.here hx rfl (hb hby at_153) rfl rfl ?_
    show Steps p.tables e below (T53.setTop (mkF m 155 #[.val (.int p0), .val (.int p1), .val (.int p2), .val (.int p3), .val (.int p4), .val (.int (0 : Int32)), .val (.int (1 : Int32)), .val (.int (2 : Int32)), .val (.int mn), .val (.int mx), .val (.double (9218868437227405312 : UInt64)), .second, .val (.double (18442240474082181120 : UInt64)), .second, .val (.ref b3), .val (.ref b4), .val (.ref b23), .unset, .unset] [(.ref b23)])) _
    refine XS.iload X53.here hx rfl (hb hby at_155) rfl ?_
    show Steps p.tables e below (T53.setTop (mkF m 157 #[.val (.int p0), .val (.int p1), .val (.int p2), .val (.int p3), .val (.int p4), .val (.int (0 : Int32)), .val (.int (1 : Int32)), .val (.int (2 : Int32)), .val (.int mn), .val (.int mx), .val (.double (9218868437227405312 : UInt64)), .second, .val (.double (18442240474082181120 : UInt64)), .second, .val (.ref b3), .val (.ref b4), .val (.ref b23), .unset, .unset] [(.int (0 : Int32)), (.ref b23)])) _
    refine st62.trans ?_
    show Steps p.tables e below (T62.setTop (mkF m 160 #[.val (.int p0), .val (.int p1), .val (.int p2), .val (.int p3), .val (.int p4), .val (.int (0 : Int32)), .val (.int (1 : Int32)), .val (.int (2 : Int32)), .val (.int mn), .val (.int mx), .val (.double (9218868437227405312 : UInt64)), .second, .val (.double (18442240474082181120 : UInt64)), .second, .val (.ref b3), .val (.ref b4), .val (.ref b23), .unset, .unset] [(.double (18442240474082181120 : UInt64))])) _
    refine XS.dstore X62.here hx rfl (hb hby at_160) rfl (l' := #[.val (.int p0), .val (.int p1), .val (.int p2), .val (.int p3), .val (.int p4), .val (.int (0 : Int32)), .val (.int (1 : Int32)), .val (.int (2 : Int32)), .val (.int mn), .val (.int mx), .val (.double (9218868437227405312 : UInt64)), .second, .val (.double (18442240474082181120 : UInt64)), .second, .val (.ref b3), .val (.ref b4), .val (.ref b23), .val (.double (18442240474082181120 : UInt64)), .second]) rfl ?_
    show Steps p.tables e below (T62.setTop (mkF m 162 #[.val (.int p0), .val (.int p1), .val (.int p2), .val (.int p3), .val (.int p4), .val (.int (0 : Int32)), .val (.int (1 : Int32)), .val (.int (2 : Int32)), .val (.int mn), .val (.int mx), .val (.double (9218868437227405312 : UInt64)), .second, .val (.double (18442240474082181120 : UInt64)), .second, .val (.ref b3), .val (.ref b4), .val (.ref b23), .val (.double (18442240474082181120 : UInt64)), .second] [])) _
    refine XS.iload X62.here hx rfl (hb hby at_162) rfl ?_
    show Steps p.tables e below (T62.setTop (mkF m 164 #[.val (.int p0), .val (.int p1), .val (.int p2), .val (.int p3), .val (.int p4), .val (.int (0 : Int32)), .val (.int (1 : Int32)), .val (.int (2 : Int32)), .val (.int mn), .val (.int mx), .val (.double (9218868437227405312 : UInt64)), .second, .val (.double (18442240474082181120 : UInt64)), .second, .val (.ref b3), .val (.ref b4), .val (.ref b23), .val (.double (18442240474082181120 : UInt64)), .second] [(.int (2 : Int32))])) _
    refine XS.ifYes X62.here hx rfl (pc0 := 164) (pc' := 191) rfl (hb hby at_164) rfl ((if0 _ _).trans (feq (by decide : ¬ ((2 : Int32) = (0 : Int32)))).2) (by decide) (by decide) ?_
    show Steps p.tables e below (T62.setTop (mkF m 191 #[.val (.int p0), .val (.int p1), .val (.int p2), .val (.int p3), .val (.int p4), .val (.int (0 : Int32)), .val (.int (1 : Int32)), .val (.int (2 : Int32)), .val (.int mn), .val (.int mx), .val (.double (9218868437227405312 : UInt64)), .second, .val (.double (18442240474082181120 : UInt64)), .second, .val (.ref b3), .val (.ref b4), .val (.ref b23), .val (.double (18442240474082181120 : UInt64)), .second] [])) _
    refine XS.iload X62.here hx rfl (hb hby at_191) rfl ?_
    show Steps p.tables e below (T62.setTop (mkF m 193 #[.val (.int p0), .val (.int p1), .val (.int p2), .val (.int p3), .val (.int p4), .val (.int (0 : Int32)), .val (.int (1 : Int32)), .val (.int (2 : Int32)), .val (.int mn), .val (.int mx), .val (.double (9218868437227405312 : UInt64)), .second, .val (.double (18442240474082181120 : UInt64)), .second, .val (.ref b3), .val (.ref b4), .val (.ref b23), .val (.double (18442240474082181120 : UInt64)), .second] [(.int (2 : Int32))])) _
    refine XS.iconst X62.here hx rfl (hb hby at_193) ?_
    show Steps p.tables e below (T62.setTop (mkF m 194 #[.val (.int p0), .val (.int p1), .val (.int p2), .val (.int p3), .val (.int p4), .val (.int (0 : Int32)), .val (.int (1 : Int32)), .val (.int (2 : Int32)), .val (.int mn), .val (.int mx), .val (.double (9218868437227405312 : UInt64)), .second, .val (.double (18442240474082181120 : UInt64)), .second, .val (.ref b3), .val (.ref b4), .val (.ref b23), .val (.double (18442240474082181120 : UInt64)), .second] [(.int (1 : Int32)), (.int (2 : Int32))])) _
    refine XS.icmpYes X62.here hx rfl (pc0 := 194) (pc' := 212) rfl (hb hby at_194) rfl (feq (by decide : ¬ ((2 : Int32) = (1 : Int32)))).2 (by decide) (by decide) ?_
    show Steps p.tables e below (T62.setTop (mkF m 212 #[.val (.int p0), .val (.int p1), .val (.int p2), .val (.int p3), .val (.int p4), .val (.int (0 : Int32)), .val (.int (1 : Int32)), .val (.int (2 : Int32)), .val (.int mn), .val (.int mx), .val (.double (9218868437227405312 : UInt64)), .second, .val (.double (18442240474082181120 : UInt64)), .second, .val (.ref b3), .val (.ref b4), .val (.ref b23), .val (.double (18442240474082181120 : UInt64)), .second] [])) _
    refine XS.dload X62.here hx rfl (hb hby at_212) rfl ?_
    show Steps p.tables e below (T62.setTop (mkF m 214 #[.val (.int p0), .val (.int p1), .val (.int p2), .val (.int p3), .val (.int p4), .val (.int (0 : Int32)), .val (.int (1 : Int32)), .val (.int (2 : Int32)), .val (.int mn), .val (.int mx), .val (.double (9218868437227405312 : UInt64)), .second, .val (.double (18442240474082181120 : UInt64)), .second, .val (.ref b3), .val (.ref b4), .val (.ref b23), .val (.double (18442240474082181120 : UInt64)), .second] [(.double (18442240474082181120 : UInt64))])) _
    refine XS.dload X62.here hx rfl (hb hby at_214) rfl ?_
    show Steps p.tables e below (T62.setTop (mkF m 216 #[.val (.int p0), .val (.int p1), .val (.int p2), .val (.int p3), .val (.int p4), .val (.int (0 : Int32)), .val (.int (1 : Int32)), .val (.int (2 : Int32)), .val (.int mn), .val (.int mx), .val (.double (9218868437227405312 : UInt64)), .second, .val (.double (18442240474082181120 : UInt64)), .second, .val (.ref b3), .val (.ref b4), .val (.ref b23), .val (.double (18442240474082181120 : UInt64)), .second] [(.double (18442240474082181120 : UInt64)), (.double (18442240474082181120 : UInt64))])) _
    refine XS.dcmpS X62.here hx rfl (hb hby at_216) rfl (v := (0 : Int32)) hd216 ?_
    show Steps p.tables e below (T62.setTop (mkF m 217 #[.val (.int p0), .val (.int p1), .val (.int p2), .val (.int p3), .val (.int p4), .val (.int (0 : Int32)), .val (.int (1 : Int32)), .val (.int (2 : Int32)), .val (.int mn), .val (.int mx), .val (.double (9218868437227405312 : UInt64)), .second, .val (.double (18442240474082181120 : UInt64)), .second, .val (.ref b3), .val (.ref b4), .val (.ref b23), .val (.double (18442240474082181120 : UInt64)), .second] [(.int (0 : Int32))])) _
    refine XS.ifNo X62.here hx rfl (hb hby at_217) rfl ((if0 _ _).trans (teq (by decide : (0 : Int32) = (0 : Int32))).2) ?_
    show Steps p.tables e below (T62.setTop (mkF m 220 #[.val (.int p0), .val (.int p1), .val (.int p2), .val (.int p3), .val (.int p4), .val (.int (0 : Int32)), .val (.int (1 : Int32)), .val (.int (2 : Int32)), .val (.int mn), .val (.int mx), .val (.double (9218868437227405312 : UInt64)), .second, .val (.double (18442240474082181120 : UInt64)), .second, .val (.ref b3), .val (.ref b4), .val (.ref b23), .val (.double (18442240474082181120 : UInt64)), .second] [])) _
    refine XS.iconst X62.here hx rfl (hb hby at_220) ?_
    show Steps p.tables e below (T62.setTop (mkF m 221 #[.val (.int p0), .val (.int p1), .val (.int p2), .val (.int p3), .val (.int p4), .val (.int (0 : Int32)), .val (.int (1 : Int32)), .val (.int (2 : Int32)), .val (.int mn), .val (.int mx), .val (.double (9218868437227405312 : UInt64)), .second, .val (.double (18442240474082181120 : UInt64)), .second, .val (.ref b3), .val (.ref b4), .val (.ref b23), .val (.double (18442240474082181120 : UInt64)), .second] [(.int (1 : Int32))])) _
    refine XS.goto X62.here hx rfl (pc0 := 221) (pc' := 225) rfl (hb hby at_221) (by decide) (by decide) ?_
    show Steps p.tables e below (T62.setTop (mkF m 225 #[.val (.int p0), .val (.int p1), .val (.int p2), .val (.int p3), .val (.int p4), .val (.int (0 : Int32)), .val (.int (1 : Int32)), .val (.int (2 : Int32)), .val (.int mn), .val (.int mx), .val (.double (9218868437227405312 : UInt64)), .second, .val (.double (18442240474082181120 : UInt64)), .second, .val (.ref b3), .val (.ref b4), .val (.ref b23), .val (.double (18442240474082181120 : UInt64)), .second] [(.int (1 : Int32))])) _
    exact retN X62 hx (t := .boolean) Bd.returns (by simp) (hb hby at_225) hr
  · show Q0 n0 _ T62.heap _
    rw [e62]
    exact ⟨rfl, N62⟩
set_option maxRecDepth 65536 in
set_option maxHeartbeats 40000000 in
theorem rm0_21 (l : Launch) (Z : State) (a0 : Array Value) (hw : ∀ d ∈ tables_1, d.before a0 Z = true) (ws : List Jvm.Cond) (p0 : Int32) (p1 : Int32) (p2 : Int32) (p3 : Int32) (p4 : Int32) (mn : Int32) (mx : Int32) (ub : UInt64) (h0 : Heap) (n0 : Nat) (Z0 : n0 ≤ h0.size) (hv2 : (p3 &&& (1 : Int32)) = (1 : Int32)) (hv13 : (p2 &&& (3 : Int32)) = (2 : Int32)) (hr_r_18 : (if p1 < p0 then p1 else p0) = mn) (hr_r_25 : (if p0 < p1 then p1 else p0) = mx) (hj_ub : (if ((p2 >>> ((2 : Int32) &&& 31)) &&& (1 : Int32)) = (0 : Int32) then (FP.i2d p4) else (9218868437227405312 : UInt64)) = ub) (hd9_157 : (cmpValue (FP.dcmp (9218868437227405312 : UInt64) (9218868437227405312 : UInt64)) .l) = (0 : Int32)) (hd216 : (cmpValue (FP.dcmp (18442240474082181120 : UInt64) (18442240474082181120 : UInt64)) .l) = (0 : Int32)) :
    MetFree l x (head1 (Jvm.Cond.code x code maxLocals ret :: ws) room_1) (fun a U => a = #[(.int p0), (.int p1), (.int p2), (.int p3), (.int p4)] ∧ Z.Warmed39 U.vm ∧ U.heap = h0) (fun _ _ _ _ _ => True) (fun _ U o U' => ∃ v L, o = .returned v ∧ Q0 n0 v U'.heap L ∧ FrameEnd U o U' L room_1.cells room_1.slots) := by
  refine MetFree.of_bodySF (plainFor_of_name pn_com_example_hedge_hedge_ValueBoundsValuePinLaw) hisR ?_
  intro p e s m args below meth c s₁ Bd hml0 hP hK
  obtain ⟨rfl, hZ, hh⟩ := hP
  have hx := Bd.exec
  have hby := Bd.bytes
  have hml : c.maxLocals = 19 := hml0
  have hown : s.vm.findClass "com/example/hedge/hedge/ValueBoundsValuePinLaw" = some m.cls := findClass_of_methodNamed Bd.named
  have hnm := (name_of_methodNamed Bd.named Bd.method).1
  have X0 : Stand p l e room_1 s m #[(.int p0), (.int p1), (.int p2), (.int p3), (.int p4)] below meth c s₁ [] 0 0 := Stand.of_body Bd
  have e0 : s₁.heap = h0 := by rw [← hh, Bd.state]; rfl
  have N0 := Fr.nil n0
  have pre0 : ∀ t, Steps p.tables e below (s₁.setTop (mkF m 0 #[.val (.int p0), .val (.int p1), .val (.int p2), .val (.int p3), .val (.int p4), .unset, .unset, .unset, .unset, .unset, .unset, .unset, .unset, .unset, .unset, .unset, .unset, .unset, .unset] [])) t → Steps p.tables e below (s₁.setTop (entryFrame m #[(.int p0), (.int p1), (.int p2), (.int p3), (.int p4)] maxLocals)) t := fun t k => castTop (ef_0_IIIII m p0 p1 p2 p3 p4) k
  obtain ⟨_, _, ⟨T1, L1, k1, n1⟩, -, X1, ⟨Lc1, hQ1, l1, y1, z1⟩, st1⟩ := Jvm.LawKit.callS X0 hx (y := (⟨"java/lang/Math", "min", "(II)I"⟩ : MethodName)) hown (mvT hZ (hw _ (List.mem_of_getElem? (i := 0) rfl))) (mvT hZ (hw _ (List.mem_of_getElem? (i := 1) rfl))) (mvT hZ (hw _ (List.mem_of_getElem? (i := 2) rfl))) (mvT hZ (hw _ (List.mem_of_getElem? (i := 3) rfl))) (by decide) (backOf (W := 0) (rm1M l Z a0 hw [] p0 p1 mn h0 n0 Z0 hr_r_18) hZ (hw _ (List.mem_of_getElem? (i := 3) rfl)) (hw _ (List.mem_of_getElem? (i := 2) rfl)) (by decide) (by decide)) (g := (mkF m 18 #[.val (.int p0), .val (.int p1), .val (.int p2), .val (.int p3), .val (.int p4), .val (.int (1 : Int32)), .val (.int (0 : Int32)), .val (.int (2 : Int32)), .unset, .unset, .unset, .unset, .unset, .unset, .unset, .unset, .unset, .unset, .unset] [(.int p1), (.int p0)])) rfl (by rw [hml]; rfl) (argsL := [(.int p0), (.int p1)]) (rest := []) (lenOf pd_1 rfl) rfl (by show 2 * 0 + _ ≤ _; exact Nat.le_of_eq rfl) (hb hby at_18) (fun _ _ => ⟨rfl, e0, (by decide : 0 + 0 ≤ _), (by decide : 0 + 0 ≤ _)⟩)
  dsimp only [Pt.U, Pt.locs, Pt.cells, Pt.slots] at X1 l1 y1 z1 st1 hQ1
  subst l1 y1 z1
  obtain ⟨rfl, N1q, eh1⟩ := hQ1
  have N1 := Fr.app N0 N1q
  have e1 : T1.heap = h0 := eh1
  obtain ⟨_, _, ⟨T2, L2, k2, n2⟩, -, X2, ⟨Lc2, hQ2, l2, y2, z2⟩, st2⟩ := Jvm.LawKit.callS X1 hx (y := (⟨"java/lang/Math", "max", "(II)I"⟩ : MethodName)) hown (mvT hZ (hw _ (List.mem_of_getElem? (i := 4) rfl))) (mvT hZ (hw _ (List.mem_of_getElem? (i := 5) rfl))) (mvT hZ (hw _ (List.mem_of_getElem? (i := 2) rfl))) (mvT hZ (hw _ (List.mem_of_getElem? (i := 6) rfl))) (by decide) (backOf (W := 0) (rm2M l Z a0 hw [] p0 p1 mx h0 n0 Z0 hr_r_25) hZ (hw _ (List.mem_of_getElem? (i := 6) rfl)) (hw _ (List.mem_of_getElem? (i := 2) rfl)) (by decide) (by decide)) (g := (mkF m 25 #[.val (.int p0), .val (.int p1), .val (.int p2), .val (.int p3), .val (.int p4), .val (.int (1 : Int32)), .val (.int (0 : Int32)), .val (.int (2 : Int32)), .val (.int mn), .unset, .unset, .unset, .unset, .unset, .unset, .unset, .unset, .unset, .unset] [(.int p1), (.int p0)])) rfl (by rw [hml]; rfl) (argsL := [(.int p0), (.int p1)]) (rest := []) (lenOf pd_1 rfl) rfl (by show 2 * 0 + _ ≤ _; exact Nat.le_of_eq rfl) (hb hby at_25) (fun _ _ => ⟨rfl, e1, (by decide : 0 + 0 ≤ _), (by decide : 0 + 0 ≤ _)⟩)
  dsimp only [Pt.U, Pt.locs, Pt.cells, Pt.slots] at X2 l2 y2 z2 st2 hQ2
  subst l2 y2 z2
  obtain ⟨rfl, N2q, eh2⟩ := hQ2
  have N2 := Fr.app N1 N2q
  have e2 : T2.heap = h0 := eh2
  obtain ⟨T3, h3, k3, X3, e3, E3, A3, st3⟩ := newP X2 hx hZ (hw _ (List.mem_of_getElem? (i := 9) rfl)) e2 (g := (mkF m 41 #[.val (.int p0), .val (.int p1), .val (.int p2), .val (.int p3), .val (.int p4), .val (.int (1 : Int32)), .val (.int (0 : Int32)), .val (.int (2 : Int32)), .val (.int mn), .val (.int mx), .val (.double (9218868437227405312 : UInt64)), .second, .val (.double (18442240474082181120 : UInt64)), .second, .unset, .unset, .unset, .unset, .unset] [(.int (2 : Int32))])) rfl (hb hby at_41) rfl (by decide) (cap := 2) (by decide) (by decide) (by decide) (by decide)
  obtain ⟨b3, g3⟩ : ∃ z, z = h0.size := ⟨_, rfl⟩
  rw [← g3] at A3 st3
  have g_b3 : n0 ≤ b3 := Nat.le_trans Z0 (Nat.le_of_eq g3.symm)
  have sz_b3 : h0.size ≤ b3 := Nat.le_trans (Keep.refl h0 []).1 (Nat.le_of_eq g3.symm)
  have K3 : Keep h0 h3 [] := (Keep.refl h0 []).ext E3
  have Zs3 := Nat.le_trans Z0 E3.1
  have V3 : Arv Z h3 b3 k3 .double (2 : Int32) [(.double (0 : UInt64)), (.double (0 : UInt64))] (.double (0 : UInt64)) := (Arv.new A3 (by decide)).pad (pad_rep [] (.double (0 : UInt64)) 2)
  obtain ⟨T4, h4, k4, X4, e4, E4, A4, st4⟩ := newP X3 hx hZ (hw _ (List.mem_of_getElem? (i := 9) rfl)) e3 (g := (mkF m 46 #[.val (.int p0), .val (.int p1), .val (.int p2), .val (.int p3), .val (.int p4), .val (.int (1 : Int32)), .val (.int (0 : Int32)), .val (.int (2 : Int32)), .val (.int mn), .val (.int mx), .val (.double (9218868437227405312 : UInt64)), .second, .val (.double (18442240474082181120 : UInt64)), .second, .val (.ref b3), .unset, .unset, .unset, .unset] [(.int (2 : Int32))])) rfl (hb hby at_46) rfl (by decide) (cap := 2) (by decide) (by decide) (by decide) (by decide)
  obtain ⟨b4, g4⟩ : ∃ z, z = h3.size := ⟨_, rfl⟩
  rw [← g4] at A4 st4
  have ne_b3_b4 : b3 ≠ b4 := Nat.ne_of_lt (Nat.lt_of_lt_of_le V3.lt (Nat.le_of_eq g4.symm))
  have g_b4 : n0 ≤ b4 := Nat.le_trans Zs3 (Nat.le_of_eq g4.symm)
  have sz_b4 : h0.size ≤ b4 := Nat.le_trans K3.1 (Nat.le_of_eq g4.symm)
  have f5 := V3.ext E4
  have K4 : Keep h0 h4 [] := K3.ext E4
  have Zs4 := Nat.le_trans Zs3 E4.1
  have V4 : Arv Z h4 b4 k4 .double (2 : Int32) [(.double (0 : UInt64)), (.double (0 : UInt64))] (.double (0 : UInt64)) := (Arv.new A4 (by decide)).pad (pad_rep [] (.double (0 : UInt64)) 2)
  obtain ⟨cq6, Arq6, qq6, Sq6, Nq6, Hq6, Gq6⟩ := id f5
  obtain ⟨T7, h7, X7, e7, W7, st7⟩ := stD X4 hx hZ e4 Arq6 (j := (1 : Int32)) (inb_of Sq6 ⟨by decide, by decide⟩) (g := (mkF m 74 #[.val (.int p0), .val (.int p1), .val (.int p2), .val (.int p3), .val (.int p4), .val (.int (1 : Int32)), .val (.int (0 : Int32)), .val (.int (2 : Int32)), .val (.int mn), .val (.int mx), .val (.double (9218868437227405312 : UInt64)), .second, .val (.double (18442240474082181120 : UInt64)), .second, .val (.ref b3), .val (.ref b4), .unset, .unset, .unset] [(.double (18442240474082181120 : UInt64)), (.int (1 : Int32)), (.ref b3)])) rfl rfl (hb hby at_74)
  have f8 := V4.other W7 (Ne.symm ne_b3_b4)
  have K7 : Keep h0 h7 [] := K4.wr W7 (Or.inr sz_b3)
  have Zs7 := Nat.le_trans Zs4 (Keep.of_wr W7).1
  have N7 := Fr.snoc X7 N2 g_b3
  have f9 : Arv Z h7 b3 k3 .double (2 : Int32) [(.double (0 : UInt64)), (.double (18442240474082181120 : UInt64))] (.double (0 : UInt64)) := Arv.set Arq6 qq6 Sq6 Nq6 Hq6 Gq6 rfl W7 1 rfl (Nat.le_of_ble_eq_true rfl)
  obtain ⟨cq10, Arq10, qq10, Sq10, Nq10, Hq10, Gq10⟩ := id f8
  obtain ⟨T11, h11, X11, e11, W11, st11⟩ := stD X7 hx hZ e7 Arq10 (j := (1 : Int32)) (inb_of Sq10 ⟨by decide, by decide⟩) (g := (mkF m 99 #[.val (.int p0), .val (.int p1), .val (.int p2), .val (.int p3), .val (.int p4), .val (.int (1 : Int32)), .val (.int (0 : Int32)), .val (.int (2 : Int32)), .val (.int mn), .val (.int mx), .val (.double (9218868437227405312 : UInt64)), .second, .val (.double (18442240474082181120 : UInt64)), .second, .val (.ref b3), .val (.ref b4), .unset, .unset, .unset] [(.double (9218868437227405312 : UInt64)), (.int (1 : Int32)), (.ref b4)])) rfl rfl (hb hby at_99)
  have f12 := f9.other W11 ne_b3_b4
  have K11 : Keep h0 h11 [] := K7.wr W11 (Or.inr sz_b4)
  have Zs11 := Nat.le_trans Zs7 (Keep.of_wr W11).1
  have N11 := Fr.snoc X11 N7 g_b4
  have f13 : Arv Z h11 b4 k4 .double (2 : Int32) [(.double (0 : UInt64)), (.double (9218868437227405312 : UInt64))] (.double (0 : UInt64)) := Arv.set Arq10 qq10 Sq10 Nq10 Hq10 Gq10 rfl W11 1 rfl (Nat.le_of_ble_eq_true rfl)
  obtain ⟨cq14, Arq14, qq14, Sq14, Nq14, Hq14, Gq14⟩ := id f12
  obtain ⟨T15, h15, X15, e15, W15, st15⟩ := stD X11 hx hZ e11 Arq14 (j := (0 : Int32)) (inb_of Sq14 ⟨by decide, by decide⟩) (g := (mkF m 107 #[.val (.int p0), .val (.int p1), .val (.int p2), .val (.int p3), .val (.int p4), .val (.int (1 : Int32)), .val (.int (0 : Int32)), .val (.int (2 : Int32)), .val (.int mn), .val (.int mx), .val (.double (9218868437227405312 : UInt64)), .second, .val (.double (18442240474082181120 : UInt64)), .second, .val (.ref b3), .val (.ref b4), .unset, .unset, .unset] [(.double (FP.i2d p4)), (.int (0 : Int32)), (.ref b3)])) rfl rfl (hb hby at_107)
  have f16 := f13.other W15 (Ne.symm ne_b3_b4)
  have K15 : Keep h0 h15 [] := K11.wr W15 (Or.inr sz_b3)
  have Zs15 := Nat.le_trans Zs11 (Keep.of_wr W15).1
  have N15 := Fr.snoc X15 N11 g_b3
  have f17 : Arv Z h15 b3 k3 .double (2 : Int32) [(.double (FP.i2d p4)), (.double (18442240474082181120 : UInt64))] (.double (0 : UInt64)) := Arv.set Arq14 qq14 Sq14 Nq14 Hq14 Gq14 rfl W15 0 rfl (Nat.le_of_ble_eq_true rfl)
  have jn18 : ∀ target, Steps p.tables e below (T15.setTop (mkF m 128 #[.val (.int p0), .val (.int p1), .val (.int p2), .val (.int p3), .val (.int p4), .val (.int (1 : Int32)), .val (.int (0 : Int32)), .val (.int (2 : Int32)), .val (.int mn), .val (.int mx), .val (.double (9218868437227405312 : UInt64)), .second, .val (.double (18442240474082181120 : UInt64)), .second, .val (.ref b3), .val (.ref b4), .unset, .unset, .unset] [(.double ub), (.int (0 : Int32)), (.ref b4)])) target → Steps p.tables e below (T15.setTop (mkF m 117 #[.val (.int p0), .val (.int p1), .val (.int p2), .val (.int p3), .val (.int p4), .val (.int (1 : Int32)), .val (.int (0 : Int32)), .val (.int (2 : Int32)), .val (.int mn), .val (.int mx), .val (.double (9218868437227405312 : UInt64)), .second, .val (.double (18442240474082181120 : UInt64)), .second, .val (.ref b3), .val (.ref b4), .unset, .unset, .unset] [(.int ((p2 >>> ((2 : Int32) &&& 31)) &&& (1 : Int32))), (.int (0 : Int32)), (.ref b4)])) target := by
    intro target kt
    by_cases hq : ((p2 >>> ((2 : Int32) &&& 31)) &&& (1 : Int32)) = (0 : Int32)
    · rw [if_pos hq] at hj_ub; subst hj_ub
      show Steps p.tables e below (T15.setTop (mkF m 117 #[.val (.int p0), .val (.int p1), .val (.int p2), .val (.int p3), .val (.int p4), .val (.int (1 : Int32)), .val (.int (0 : Int32)), .val (.int (2 : Int32)), .val (.int mn), .val (.int mx), .val (.double (9218868437227405312 : UInt64)), .second, .val (.double (18442240474082181120 : UInt64)), .second, .val (.ref b3), .val (.ref b4), .unset, .unset, .unset] [(.int ((p2 >>> ((2 : Int32) &&& 31)) &&& (1 : Int32))), (.int (0 : Int32)), (.ref b4)])) _
      refine XS.ifYes X15.here hx rfl (pc0 := 117) (pc' := 125) rfl (hb hby at_117) rfl ((if0 _ _).trans (teq hq).1) (by decide) (by decide) ?_
      show Steps p.tables e below (T15.setTop (mkF m 125 #[.val (.int p0), .val (.int p1), .val (.int p2), .val (.int p3), .val (.int p4), .val (.int (1 : Int32)), .val (.int (0 : Int32)), .val (.int (2 : Int32)), .val (.int mn), .val (.int mx), .val (.double (9218868437227405312 : UInt64)), .second, .val (.double (18442240474082181120 : UInt64)), .second, .val (.ref b3), .val (.ref b4), .unset, .unset, .unset] [(.int (0 : Int32)), (.ref b4)])) _
      refine XS.iload X15.here hx rfl (hb hby at_125) rfl ?_
      show Steps p.tables e below (T15.setTop (mkF m 127 #[.val (.int p0), .val (.int p1), .val (.int p2), .val (.int p3), .val (.int p4), .val (.int (1 : Int32)), .val (.int (0 : Int32)), .val (.int (2 : Int32)), .val (.int mn), .val (.int mx), .val (.double (9218868437227405312 : UInt64)), .second, .val (.double (18442240474082181120 : UInt64)), .second, .val (.ref b3), .val (.ref b4), .unset, .unset, .unset] [(.int p4), (.int (0 : Int32)), (.ref b4)])) _
      refine XS.i2dS X15.here hx rfl (hb hby at_127) rfl (v := (FP.i2d p4)) rfl ?_
      show Steps p.tables e below (T15.setTop (mkF m 128 #[.val (.int p0), .val (.int p1), .val (.int p2), .val (.int p3), .val (.int p4), .val (.int (1 : Int32)), .val (.int (0 : Int32)), .val (.int (2 : Int32)), .val (.int mn), .val (.int mx), .val (.double (9218868437227405312 : UInt64)), .second, .val (.double (18442240474082181120 : UInt64)), .second, .val (.ref b3), .val (.ref b4), .unset, .unset, .unset] [(.double (FP.i2d p4)), (.int (0 : Int32)), (.ref b4)])) _
      exact kt
    · rw [if_neg hq] at hj_ub; subst hj_ub
      show Steps p.tables e below (T15.setTop (mkF m 117 #[.val (.int p0), .val (.int p1), .val (.int p2), .val (.int p3), .val (.int p4), .val (.int (1 : Int32)), .val (.int (0 : Int32)), .val (.int (2 : Int32)), .val (.int mn), .val (.int mx), .val (.double (9218868437227405312 : UInt64)), .second, .val (.double (18442240474082181120 : UInt64)), .second, .val (.ref b3), .val (.ref b4), .unset, .unset, .unset] [(.int ((p2 >>> ((2 : Int32) &&& 31)) &&& (1 : Int32))), (.int (0 : Int32)), (.ref b4)])) _
      refine XS.ifNo X15.here hx rfl (hb hby at_117) rfl ((if0 _ _).trans (feq hq).1) ?_
      show Steps p.tables e below (T15.setTop (mkF m 120 #[.val (.int p0), .val (.int p1), .val (.int p2), .val (.int p3), .val (.int p4), .val (.int (1 : Int32)), .val (.int (0 : Int32)), .val (.int (2 : Int32)), .val (.int mn), .val (.int mx), .val (.double (9218868437227405312 : UInt64)), .second, .val (.double (18442240474082181120 : UInt64)), .second, .val (.ref b3), .val (.ref b4), .unset, .unset, .unset] [(.int (0 : Int32)), (.ref b4)])) _
      refine XS.dload X15.here hx rfl (hb hby at_120) rfl ?_
      show Steps p.tables e below (T15.setTop (mkF m 122 #[.val (.int p0), .val (.int p1), .val (.int p2), .val (.int p3), .val (.int p4), .val (.int (1 : Int32)), .val (.int (0 : Int32)), .val (.int (2 : Int32)), .val (.int mn), .val (.int mx), .val (.double (9218868437227405312 : UInt64)), .second, .val (.double (18442240474082181120 : UInt64)), .second, .val (.ref b3), .val (.ref b4), .unset, .unset, .unset] [(.double (9218868437227405312 : UInt64)), (.int (0 : Int32)), (.ref b4)])) _
      refine XS.goto X15.here hx rfl (pc0 := 122) (pc' := 128) rfl (hb hby at_122) (by decide) (by decide) ?_
      show Steps p.tables e below (T15.setTop (mkF m 128 #[.val (.int p0), .val (.int p1), .val (.int p2), .val (.int p3), .val (.int p4), .val (.int (1 : Int32)), .val (.int (0 : Int32)), .val (.int (2 : Int32)), .val (.int mn), .val (.int mx), .val (.double (9218868437227405312 : UInt64)), .second, .val (.double (18442240474082181120 : UInt64)), .second, .val (.ref b3), .val (.ref b4), .unset, .unset, .unset] [(.double (9218868437227405312 : UInt64)), (.int (0 : Int32)), (.ref b4)])) _
      exact kt
  obtain ⟨cq19, Arq19, qq19, Sq19, Nq19, Hq19, Gq19⟩ := id f16
  obtain ⟨T20, h20, X20, e20, W20, st20⟩ := stD X15 hx hZ e15 Arq19 (j := (0 : Int32)) (inb_of Sq19 ⟨by decide, by decide⟩) (g := (mkF m 128 #[.val (.int p0), .val (.int p1), .val (.int p2), .val (.int p3), .val (.int p4), .val (.int (1 : Int32)), .val (.int (0 : Int32)), .val (.int (2 : Int32)), .val (.int mn), .val (.int mx), .val (.double (9218868437227405312 : UInt64)), .second, .val (.double (18442240474082181120 : UInt64)), .second, .val (.ref b3), .val (.ref b4), .unset, .unset, .unset] [(.double ub), (.int (0 : Int32)), (.ref b4)])) rfl rfl (hb hby at_128)
  have f21 := f17.other W20 ne_b3_b4
  have K20 : Keep h0 h20 [] := K15.wr W20 (Or.inr sz_b4)
  have Zs20 := Nat.le_trans Zs15 (Keep.of_wr W20).1
  have N20 := Fr.snoc X20 N15 g_b4
  have f22 : Arv Z h20 b4 k4 .double (2 : Int32) [(.double ub), (.double (9218868437227405312 : UInt64))] (.double (0 : UInt64)) := Arv.set Arq19 qq19 Sq19 Nq19 Hq19 Gq19 rfl W20 0 rfl (Nat.le_of_ble_eq_true rfl)
  obtain ⟨T23, h23, X23, e23, E23, A23, D23, -, st23⟩ := newO X20 hx hZ hown (hw _ (List.mem_of_getElem? (i := 10) rfl)) (hw _ (List.mem_of_getElem? (i := 11) rfl)) (hw _ (List.mem_of_getElem? (i := 12) rfl)) e20 (g := (mkF m 129 #[.val (.int p0), .val (.int p1), .val (.int p2), .val (.int p3), .val (.int p4), .val (.int (1 : Int32)), .val (.int (0 : Int32)), .val (.int (2 : Int32)), .val (.int mn), .val (.int mx), .val (.double (9218868437227405312 : UInt64)), .second, .val (.double (18442240474082181120 : UInt64)), .second, .val (.ref b3), .val (.ref b4), .unset, .unset, .unset] [])) rfl (hb hby at_129) (by decide) (by decide)
  obtain ⟨b23, g23⟩ : ∃ z, z = h20.size := ⟨_, rfl⟩
  rw [← g23] at A23 D23 st23
  have ne_b3_b23 : b3 ≠ b23 := Nat.ne_of_lt (Nat.lt_of_lt_of_le f21.lt (Nat.le_of_eq g23.symm))
  have ne_b4_b23 : b4 ≠ b23 := Nat.ne_of_lt (Nat.lt_of_lt_of_le f22.lt (Nat.le_of_eq g23.symm))
  have g_b23 : n0 ≤ b23 := Nat.le_trans Zs20 (Nat.le_of_eq g23.symm)
  have sz_b23 : h0.size ≤ b23 := Nat.le_trans K20.1 (Nat.le_of_eq g23.symm)
  have f24 := f21.ext E23
  have f25 := f22.ext E23
  have K23 : Keep h0 h23 [] := K20.ext E23
  have Zs23 := Nat.le_trans Zs20 E23.1
  have F23_lower : Fld Z h23 b23 "com/example/hedge/hedge/ValueBounds" "lower" "[D" .null := D23 (Or.inr (hw _ (List.mem_of_getElem? (i := 27) rfl))) (ty := (.array .double)) (by decide)
  have F23_upper : Fld Z h23 b23 "com/example/hedge/hedge/ValueBounds" "upper" "[D" .null := D23 (Or.inr (hw _ (List.mem_of_getElem? (i := 29) rfl))) (ty := (.array .double)) (by decide)
  have F23_strategy : Fld Z h23 b23 "com/example/hedge/hedge/ValueBounds" "strategy" "[[I" .null := D23 (Or.inr (hw _ (List.mem_of_getElem? (i := 31) rfl))) (ty := (.array (.array .int))) (by decide)
  obtain ⟨T26, h26, k26, X26, e26, E26, A26, B26, st26⟩ := newPE X23 hx hZ (hw _ (List.mem_of_getElem? (i := 13) rfl)) e23 (g := (mkF m 138 #[.val (.int p0), .val (.int p1), .val (.int p2), .val (.int p3), .val (.int p4), .val (.int (1 : Int32)), .val (.int (0 : Int32)), .val (.int (2 : Int32)), .val (.int mn), .val (.int mx), .val (.double (9218868437227405312 : UInt64)), .second, .val (.double (18442240474082181120 : UInt64)), .second, .val (.ref b3), .val (.ref b4), .unset, .unset, .unset] [(.int (2 : Int32)), (.ref b4), (.ref b3), (.ref b23), (.ref b23)])) rfl (hb hby at_138) rfl (by decide) (cap := 2) (by decide) (by decide) (by decide) (by decide) (ad := "[I") rfl
  obtain ⟨b26, g26⟩ : ∃ z, z = h23.size := ⟨_, rfl⟩
  rw [← g26] at A26 st26 B26
  have ne_b3_b26 : b3 ≠ b26 := Nat.ne_of_lt (Nat.lt_of_lt_of_le f24.lt (Nat.le_of_eq g26.symm))
  have ne_b4_b26 : b4 ≠ b26 := Nat.ne_of_lt (Nat.lt_of_lt_of_le f25.lt (Nat.le_of_eq g26.symm))
  have ne_b23_b26 : b23 ≠ b26 := Nat.ne_of_lt (Nat.lt_of_lt_of_le A23.lt (Nat.le_of_eq g26.symm))
  have g_b26 : n0 ≤ b26 := Nat.le_trans Zs23 (Nat.le_of_eq g26.symm)
  have sz_b26 : h0.size ≤ b26 := Nat.le_trans K23.1 (Nat.le_of_eq g26.symm)
  have f27 := f24.ext E26
  have f28 := f25.ext E26
  have f29 := A23.ext E26
  have f30 := F23_lower.ext E26
  have f31 := F23_upper.ext E26
  have f32 := F23_strategy.ext E26
  have K26 : Keep h0 h26 [] := K23.ext E26
  have Zs26 := Nat.le_trans Zs23 E26.1
  have V26 : Arv Z h26 b26 k26 .int (2 : Int32) [(.int (0 : Int32)), (.int (0 : Int32))] (.int (0 : Int32)) := (Arv.new A26 (by decide)).pad (pad_rep [] (.int (0 : Int32)) 2)
  obtain ⟨cq33, Arq33, qq33, Sq33, Nq33, Hq33, Gq33⟩ := id V26
  obtain ⟨T34, h34, X34, e34, W34, st34⟩ := stI X26 hx hZ e26 Arq33 (j := (0 : Int32)) (inb_of Sq33 ⟨by decide, by decide⟩) (g := (mkF m 143 #[.val (.int p0), .val (.int p1), .val (.int p2), .val (.int p3), .val (.int p4), .val (.int (1 : Int32)), .val (.int (0 : Int32)), .val (.int (2 : Int32)), .val (.int mn), .val (.int mx), .val (.double (9218868437227405312 : UInt64)), .second, .val (.double (18442240474082181120 : UInt64)), .second, .val (.ref b3), .val (.ref b4), .unset, .unset, .unset] [(.int (-1 : Int32)), (.int (0 : Int32)), (.ref b26), (.ref b26), (.ref b4), (.ref b3), (.ref b23), (.ref b23)])) rfl rfl (hb hby at_143)
  have f35 := f27.other W34 ne_b3_b26
  have f36 := f28.other W34 ne_b4_b26
  have f37 := f29.wr W34
  have f38 := f30.other W34 (Or.inl ne_b23_b26)
  have f39 := f31.other W34 (Or.inl ne_b23_b26)
  have f40 := f32.other W34 (Or.inl ne_b23_b26)
  have f41 := B26.wr W34
  have K34 : Keep h0 h34 [] := K26.wr W34 (Or.inr sz_b26)
  have Zs34 := Nat.le_trans Zs26 (Keep.of_wr W34).1
  have N34 := Fr.snoc X34 N20 g_b26
  have f42 : Arv Z h34 b26 k26 .int (2 : Int32) [(.int (-1 : Int32)), (.int (0 : Int32))] (.int (0 : Int32)) := Arv.set Arq33 qq33 Sq33 Nq33 Hq33 Gq33 rfl W34 0 rfl (Nat.le_of_ble_eq_true rfl)
  obtain ⟨cq43, Arq43, qq43, Sq43, Nq43, Hq43, Gq43⟩ := id f42
  obtain ⟨T44, h44, X44, e44, W44, st44⟩ := stI X34 hx hZ e34 Arq43 (j := (1 : Int32)) (inb_of Sq43 ⟨by decide, by decide⟩) (g := (mkF m 147 #[.val (.int p0), .val (.int p1), .val (.int p2), .val (.int p3), .val (.int p4), .val (.int (1 : Int32)), .val (.int (0 : Int32)), .val (.int (2 : Int32)), .val (.int mn), .val (.int mx), .val (.double (9218868437227405312 : UInt64)), .second, .val (.double (18442240474082181120 : UInt64)), .second, .val (.ref b3), .val (.ref b4), .unset, .unset, .unset] [(.int (-1 : Int32)), (.int (1 : Int32)), (.ref b26), (.ref b26), (.ref b4), (.ref b3), (.ref b23), (.ref b23)])) rfl rfl (hb hby at_147)
  have f45 := f35.other W44 ne_b3_b26
  have f46 := f36.other W44 ne_b4_b26
  have f47 := f37.wr W44
  have f48 := f38.other W44 (Or.inl ne_b23_b26)
  have f49 := f39.other W44 (Or.inl ne_b23_b26)
  have f50 := f40.other W44 (Or.inl ne_b23_b26)
  have f51 := f41.wr W44
  have K44 : Keep h0 h44 [] := K34.wr W44 (Or.inr sz_b26)
  have Zs44 := Nat.le_trans Zs34 (Keep.of_wr W44).1
  have N44 := Fr.snoc X44 N34 g_b26
  have f52 : Arv Z h44 b26 k26 .int (2 : Int32) [(.int (-1 : Int32)), (.int (-1 : Int32))] (.int (0 : Int32)) := Arv.set Arq43 qq43 Sq43 Nq43 Hq43 Gq43 rfl W44 1 rfl (Nat.le_of_ble_eq_true rfl)
  obtain ⟨_, _, ⟨T53, L53, k53, n53⟩, -, X53, ⟨Lc53, hQ53, l53, y53, z53⟩, st53⟩ := X44.specialBack hx (y := (⟨"com/example/hedge/hedge/ValueBounds", "<init>", "([D[D[I)V"⟩ : MethodName)) rfl hown (mvT hZ (hw _ (List.mem_of_getElem? (i := 14) rfl))) (mvT hZ (hw _ (List.mem_of_getElem? (i := 15) rfl))) (mvT hZ (hw _ (List.mem_of_getElem? (i := 16) rfl))) (by decide) (backOf (W := 1) (rm3 l Z a0 hw [] b23 b3 b4 b26 h44 n0 Zs44 f47 g_b23 f48 f49 f50 f51) hZ (hw _ (List.mem_of_getElem? (i := 16) rfl)) (hw _ (List.mem_of_getElem? (i := 12) rfl)) (by decide) (by decide)) (g := (mkF m 148 #[.val (.int p0), .val (.int p1), .val (.int p2), .val (.int p3), .val (.int p4), .val (.int (1 : Int32)), .val (.int (0 : Int32)), .val (.int (2 : Int32)), .val (.int mn), .val (.int mx), .val (.double (9218868437227405312 : UInt64)), .second, .val (.double (18442240474082181120 : UInt64)), .second, .val (.ref b3), .val (.ref b4), .unset, .unset, .unset] [(.ref b26), (.ref b4), (.ref b3), (.ref b23), (.ref b23)])) rfl (by rw [hml]; rfl) (Steps.refl _) (a := b23) (argsL := [(.ref b3), (.ref b4), (.ref b26)]) (rest := [(.ref b23)]) (lenOf pd_2 rfl) rfl (by show 2 * 0 + _ ≤ _; exact Nat.le_of_eq rfl) (hb hby at_148) (fun _ _ => ⟨rfl, e44, (by decide : 4 + 1 ≤ _), (by decide : 9 + 1 ≤ _)⟩)
  dsimp only [Pt.U, Pt.locs, Pt.cells, Pt.slots] at X53 l53 y53 z53 st53 hQ53
  subst l53 y53 z53
  obtain ⟨rfl, N53q, K53q, f54, f55, f56⟩ := hQ53
  have N53 := Fr.app N44 N53q
  have f57 := f45.keep K53q (own_niS ne_b3_b23 own_ni0)
  have f58 := f46.keep K53q (own_niS ne_b4_b23 own_ni0)
  have f59 := f47.keep K53q
  have f60 := f52.keep K53q (own_niS (Ne.symm ne_b23_b26) own_ni0)
  have f61 := f51.keep K53q
  have K53 : Keep h0 T53.heap [] := K44.trans K53q (own_allS (Or.inr sz_b23) own_all0)
  have Zs53 := Nat.le_trans Zs44 K53q.1
  obtain ⟨cq62, kq62, q62a, q62b, q62c⟩ := isOf hZ rfl f54
  obtain ⟨_, _, ⟨T62, L62, k62, n62⟩, -, X62, ⟨Lc62, hQ62, l62, y62, z62⟩, st62⟩ := X53.virtualBack hx (y := (⟨"com/example/hedge/hedge/ValueBounds", "value", "(I)D"⟩ : MethodName)) (z := (⟨"com/example/hedge/hedge/ValueBounds", "value", "(I)D"⟩ : MethodName)) hown (mvT hZ (hw _ (List.mem_of_getElem? (i := 32) rfl))) (mvT hZ (hw _ (List.mem_of_getElem? (i := 33) rfl))) (notFace_of_selects (args := #[]) (mvT hZ (hw _ (List.mem_of_getElem? (i := 35) rfl)))) (mvT hZ (hw _ (List.mem_of_getElem? (i := 35) rfl))) (mvT hZ (hw _ (List.mem_of_getElem? (i := 34) rfl))) (by decide) (backOf (W := 0) (rm6_1i l Z a0 hw [] b23 b3 b4 k3 k4 (FP.i2d p4) (18442240474082181120 : UInt64) ub (9218868437227405312 : UInt64) T53.heap n0 Zs53 f55 f56 f57 f58 hd9_157) hZ (hw _ (List.mem_of_getElem? (i := 36) rfl)) (hw _ (List.mem_of_getElem? (i := 12) rfl)) (by decide) (by decide)) q62a q62c (g := (mkF m 157 #[.val (.int p0), .val (.int p1), .val (.int p2), .val (.int p3), .val (.int p4), .val (.int (1 : Int32)), .val (.int (0 : Int32)), .val (.int (2 : Int32)), .val (.int mn), .val (.int mx), .val (.double (9218868437227405312 : UInt64)), .second, .val (.double (18442240474082181120 : UInt64)), .second, .val (.ref b3), .val (.ref b4), .val (.ref b23), .unset, .unset] [(.int (1 : Int32)), (.ref b23)])) rfl (by rw [hml]; rfl) (Steps.refl _) (argsL := [(.int (1 : Int32))]) (rest := []) (lenOf pd_3 rfl) rfl (by show 2 * 0 + _ ≤ _; exact Nat.le_of_eq rfl) (hb hby at_157) (fun _ _ => ⟨rfl, rfl, (by decide : 5 + 0 ≤ _), (by decide : 10 + 0 ≤ _)⟩)
  dsimp only [Pt.U, Pt.locs, Pt.cells, Pt.slots] at X62 l62 y62 z62 st62 hQ62
  subst l62 y62 z62
  obtain ⟨rfl, N62q, eh62⟩ := hQ62
  have N62 := Fr.app N53 N62q
  have e62 : T62.heap = T53.heap := eh62
  obtain ⟨fs, hr, hrun, hended, hW, hsame⟩ := X62.leave (v := some (.int (1 : Int32))) (fun h => by rw [Bd.returns] at h; cases h)
  refine ⟨_, _, pre0 _ ?_, hrun, hended, _, _, rfl, ?_, ⟨_, rfl⟩, hW, hsame.mono (by decide) (by decide)⟩
  · show Steps p.tables e below (s₁.setTop (mkF m 0 #[.val (.int p0), .val (.int p1), .val (.int p2), .val (.int p3), .val (.int p4), .unset, .unset, .unset, .unset, .unset, .unset, .unset, .unset, .unset, .unset, .unset, .unset, .unset, .unset] [])) _
    refine XS.iloadN X0.here hx rfl (hb hby at_0) rfl ?_
    show Steps p.tables e below (s₁.setTop (mkF m 1 #[.val (.int p0), .val (.int p1), .val (.int p2), .val (.int p3), .val (.int p4), .unset, .unset, .unset, .unset, .unset, .unset, .unset, .unset, .unset, .unset, .unset, .unset, .unset, .unset] [(.int p3)])) _
    refine XS.iconst X0.here hx rfl (hb hby at_1) ?_
    show Steps p.tables e below (s₁.setTop (mkF m 2 #[.val (.int p0), .val (.int p1), .val (.int p2), .val (.int p3), .val (.int p4), .unset, .unset, .unset, .unset, .unset, .unset, .unset, .unset, .unset, .unset, .unset, .unset, .unset, .unset] [(.int (1 : Int32)), (.int p3)])) _
    refine XS.iand X0.here hx rfl (hb hby at_2) rfl ?_
    show Steps p.tables e below (s₁.setTop (mkF m 3 #[.val (.int p0), .val (.int p1), .val (.int p2), .val (.int p3), .val (.int p4), .unset, .unset, .unset, .unset, .unset, .unset, .unset, .unset, .unset, .unset, .unset, .unset, .unset, .unset] [(.int (p3 &&& (1 : Int32)))])) _
    rw [hv2]
    show Steps p.tables e below (s₁.setTop (mkF m 3 #[.val (.int p0), .val (.int p1), .val (.int p2), .val (.int p3), .val (.int p4), .unset, .unset, .unset, .unset, .unset, .unset, .unset, .unset, .unset, .unset, .unset, .unset, .unset, .unset] [(.int (1 : Int32))])) _
    refine XS.istore X0.here hx rfl (hb hby at_3) rfl (l' := #[.val (.int p0), .val (.int p1), .val (.int p2), .val (.int p3), .val (.int p4), .val (.int (1 : Int32)), .unset, .unset, .unset, .unset, .unset, .unset, .unset, .unset, .unset, .unset, .unset, .unset, .unset]) rfl ?_
    show Steps p.tables e below (s₁.setTop (mkF m 5 #[.val (.int p0), .val (.int p1), .val (.int p2), .val (.int p3), .val (.int p4), .val (.int (1 : Int32)), .unset, .unset, .unset, .unset, .unset, .unset, .unset, .unset, .unset, .unset, .unset, .unset, .unset] [])) _
    refine XS.iconst X0.here hx rfl (hb hby at_5) ?_
    show Steps p.tables e below (s₁.setTop (mkF m 6 #[.val (.int p0), .val (.int p1), .val (.int p2), .val (.int p3), .val (.int p4), .val (.int (1 : Int32)), .unset, .unset, .unset, .unset, .unset, .unset, .unset, .unset, .unset, .unset, .unset, .unset, .unset] [(.int (1 : Int32))])) _
    refine XS.iload X0.here hx rfl (hb hby at_6) rfl ?_
    show Steps p.tables e below (s₁.setTop (mkF m 8 #[.val (.int p0), .val (.int p1), .val (.int p2), .val (.int p3), .val (.int p4), .val (.int (1 : Int32)), .unset, .unset, .unset, .unset, .unset, .unset, .unset, .unset, .unset, .unset, .unset, .unset, .unset] [(.int (1 : Int32)), (.int (1 : Int32))])) _
    refine XS.isub X0.here hx rfl (hb hby at_8) rfl ?_
    show Steps p.tables e below (s₁.setTop (mkF m 9 #[.val (.int p0), .val (.int p1), .val (.int p2), .val (.int p3), .val (.int p4), .val (.int (1 : Int32)), .unset, .unset, .unset, .unset, .unset, .unset, .unset, .unset, .unset, .unset, .unset, .unset, .unset] [(.int ((1 : Int32) - (1 : Int32)))])) _
    rw [show ((1 : Int32) - (1 : Int32)) = (0 : Int32) by decide]
    show Steps p.tables e below (s₁.setTop (mkF m 9 #[.val (.int p0), .val (.int p1), .val (.int p2), .val (.int p3), .val (.int p4), .val (.int (1 : Int32)), .unset, .unset, .unset, .unset, .unset, .unset, .unset, .unset, .unset, .unset, .unset, .unset, .unset] [(.int (0 : Int32))])) _
    refine XS.istore X0.here hx rfl (hb hby at_9) rfl (l' := #[.val (.int p0), .val (.int p1), .val (.int p2), .val (.int p3), .val (.int p4), .val (.int (1 : Int32)), .val (.int (0 : Int32)), .unset, .unset, .unset, .unset, .unset, .unset, .unset, .unset, .unset, .unset, .unset, .unset]) rfl ?_
    show Steps p.tables e below (s₁.setTop (mkF m 11 #[.val (.int p0), .val (.int p1), .val (.int p2), .val (.int p3), .val (.int p4), .val (.int (1 : Int32)), .val (.int (0 : Int32)), .unset, .unset, .unset, .unset, .unset, .unset, .unset, .unset, .unset, .unset, .unset, .unset] [])) _
    refine XS.iloadN X0.here hx rfl (hb hby at_11) rfl ?_
    show Steps p.tables e below (s₁.setTop (mkF m 12 #[.val (.int p0), .val (.int p1), .val (.int p2), .val (.int p3), .val (.int p4), .val (.int (1 : Int32)), .val (.int (0 : Int32)), .unset, .unset, .unset, .unset, .unset, .unset, .unset, .unset, .unset, .unset, .unset, .unset] [(.int p2)])) _
    refine XS.iconst X0.here hx rfl (hb hby at_12) ?_
    show Steps p.tables e below (s₁.setTop (mkF m 13 #[.val (.int p0), .val (.int p1), .val (.int p2), .val (.int p3), .val (.int p4), .val (.int (1 : Int32)), .val (.int (0 : Int32)), .unset, .unset, .unset, .unset, .unset, .unset, .unset, .unset, .unset, .unset, .unset, .unset] [(.int (3 : Int32)), (.int p2)])) _
    refine XS.iand X0.here hx rfl (hb hby at_13) rfl ?_
    show Steps p.tables e below (s₁.setTop (mkF m 14 #[.val (.int p0), .val (.int p1), .val (.int p2), .val (.int p3), .val (.int p4), .val (.int (1 : Int32)), .val (.int (0 : Int32)), .unset, .unset, .unset, .unset, .unset, .unset, .unset, .unset, .unset, .unset, .unset, .unset] [(.int (p2 &&& (3 : Int32)))])) _
    rw [hv13]
    show Steps p.tables e below (s₁.setTop (mkF m 14 #[.val (.int p0), .val (.int p1), .val (.int p2), .val (.int p3), .val (.int p4), .val (.int (1 : Int32)), .val (.int (0 : Int32)), .unset, .unset, .unset, .unset, .unset, .unset, .unset, .unset, .unset, .unset, .unset, .unset] [(.int (2 : Int32))])) _
    refine XS.istore X0.here hx rfl (hb hby at_14) rfl (l' := #[.val (.int p0), .val (.int p1), .val (.int p2), .val (.int p3), .val (.int p4), .val (.int (1 : Int32)), .val (.int (0 : Int32)), .val (.int (2 : Int32)), .unset, .unset, .unset, .unset, .unset, .unset, .unset, .unset, .unset, .unset, .unset]) rfl ?_
    show Steps p.tables e below (s₁.setTop (mkF m 16 #[.val (.int p0), .val (.int p1), .val (.int p2), .val (.int p3), .val (.int p4), .val (.int (1 : Int32)), .val (.int (0 : Int32)), .val (.int (2 : Int32)), .unset, .unset, .unset, .unset, .unset, .unset, .unset, .unset, .unset, .unset, .unset] [])) _
    refine XS.iloadN X0.here hx rfl (hb hby at_16) rfl ?_
    show Steps p.tables e below (s₁.setTop (mkF m 17 #[.val (.int p0), .val (.int p1), .val (.int p2), .val (.int p3), .val (.int p4), .val (.int (1 : Int32)), .val (.int (0 : Int32)), .val (.int (2 : Int32)), .unset, .unset, .unset, .unset, .unset, .unset, .unset, .unset, .unset, .unset, .unset] [(.int p0)])) _
    refine XS.iloadN X0.here hx rfl (hb hby at_17) rfl ?_
    show Steps p.tables e below (s₁.setTop (mkF m 18 #[.val (.int p0), .val (.int p1), .val (.int p2), .val (.int p3), .val (.int p4), .val (.int (1 : Int32)), .val (.int (0 : Int32)), .val (.int (2 : Int32)), .unset, .unset, .unset, .unset, .unset, .unset, .unset, .unset, .unset, .unset, .unset] [(.int p1), (.int p0)])) _
    refine st1 _ ?_
    show Steps p.tables e below (T1.setTop (mkF m 21 #[.val (.int p0), .val (.int p1), .val (.int p2), .val (.int p3), .val (.int p4), .val (.int (1 : Int32)), .val (.int (0 : Int32)), .val (.int (2 : Int32)), .unset, .unset, .unset, .unset, .unset, .unset, .unset, .unset, .unset, .unset, .unset] [(.int mn)])) _
    refine XS.istore X1.here hx rfl (hb hby at_21) rfl (l' := #[.val (.int p0), .val (.int p1), .val (.int p2), .val (.int p3), .val (.int p4), .val (.int (1 : Int32)), .val (.int (0 : Int32)), .val (.int (2 : Int32)), .val (.int mn), .unset, .unset, .unset, .unset, .unset, .unset, .unset, .unset, .unset, .unset]) rfl ?_
    show Steps p.tables e below (T1.setTop (mkF m 23 #[.val (.int p0), .val (.int p1), .val (.int p2), .val (.int p3), .val (.int p4), .val (.int (1 : Int32)), .val (.int (0 : Int32)), .val (.int (2 : Int32)), .val (.int mn), .unset, .unset, .unset, .unset, .unset, .unset, .unset, .unset, .unset, .unset] [])) _
    refine XS.iloadN X1.here hx rfl (hb hby at_23) rfl ?_
    show Steps p.tables e below (T1.setTop (mkF m 24 #[.val (.int p0), .val (.int p1), .val (.int p2), .val (.int p3), .val (.int p4), .val (.int (1 : Int32)), .val (.int (0 : Int32)), .val (.int (2 : Int32)), .val (.int mn), .unset, .unset, .unset, .unset, .unset, .unset, .unset, .unset, .unset, .unset] [(.int p0)])) _
    refine XS.iloadN X1.here hx rfl (hb hby at_24) rfl ?_
    show Steps p.tables e below (T1.setTop (mkF m 25 #[.val (.int p0), .val (.int p1), .val (.int p2), .val (.int p3), .val (.int p4), .val (.int (1 : Int32)), .val (.int (0 : Int32)), .val (.int (2 : Int32)), .val (.int mn), .unset, .unset, .unset, .unset, .unset, .unset, .unset, .unset, .unset, .unset] [(.int p1), (.int p0)])) _
    refine st2 _ ?_
    show Steps p.tables e below (T2.setTop (mkF m 28 #[.val (.int p0), .val (.int p1), .val (.int p2), .val (.int p3), .val (.int p4), .val (.int (1 : Int32)), .val (.int (0 : Int32)), .val (.int (2 : Int32)), .val (.int mn), .unset, .unset, .unset, .unset, .unset, .unset, .unset, .unset, .unset, .unset] [(.int mx)])) _
    refine XS.istore X2.here hx rfl (hb hby at_28) rfl (l' := #[.val (.int p0), .val (.int p1), .val (.int p2), .val (.int p3), .val (.int p4), .val (.int (1 : Int32)), .val (.int (0 : Int32)), .val (.int (2 : Int32)), .val (.int mn), .val (.int mx), .unset, .unset, .unset, .unset, .unset, .unset, .unset, .unset, .unset]) rfl ?_
    show Steps p.tables e below (T2.setTop (mkF m 30 #[.val (.int p0), .val (.int p1), .val (.int p2), .val (.int p3), .val (.int p4), .val (.int (1 : Int32)), .val (.int (0 : Int32)), .val (.int (2 : Int32)), .val (.int mn), .val (.int mx), .unset, .unset, .unset, .unset, .unset, .unset, .unset, .unset, .unset] [])) _
    refine X2.ldc2DoubleC hx hown (mvT hZ (hw _ (List.mem_of_getElem? (i := 7) rfl))) (g := (mkF m 30 #[.val (.int p0), .val (.int p1), .val (.int p2), .val (.int p3), .val (.int p4), .val (.int (1 : Int32)), .val (.int (0 : Int32)), .val (.int (2 : Int32)), .val (.int mn), .val (.int mx), .unset, .unset, .unset, .unset, .unset, .unset, .unset, .unset, .unset] [])) rfl (hb hby at_30) _ ?_
    show Steps p.tables e below (T2.setTop (mkF m 33 #[.val (.int p0), .val (.int p1), .val (.int p2), .val (.int p3), .val (.int p4), .val (.int (1 : Int32)), .val (.int (0 : Int32)), .val (.int (2 : Int32)), .val (.int mn), .val (.int mx), .unset, .unset, .unset, .unset, .unset, .unset, .unset, .unset, .unset] [(.double (9218868437227405312 : UInt64))])) _
    refine XS.dstore X2.here hx rfl (hb hby at_33) rfl (l' := #[.val (.int p0), .val (.int p1), .val (.int p2), .val (.int p3), .val (.int p4), .val (.int (1 : Int32)), .val (.int (0 : Int32)), .val (.int (2 : Int32)), .val (.int mn), .val (.int mx), .val (.double (9218868437227405312 : UInt64)), .second, .unset, .unset, .unset, .unset, .unset, .unset, .unset]) rfl ?_
    show Steps p.tables e below (T2.setTop (mkF m 35 #[.val (.int p0), .val (.int p1), .val (.int p2), .val (.int p3), .val (.int p4), .val (.int (1 : Int32)), .val (.int (0 : Int32)), .val (.int (2 : Int32)), .val (.int mn), .val (.int mx), .val (.double (9218868437227405312 : UInt64)), .second, .unset, .unset, .unset, .unset, .unset, .unset, .unset] [])) _
    refine X2.ldc2DoubleC hx hown (mvT hZ (hw _ (List.mem_of_getElem? (i := 8) rfl))) (g := (mkF m 35 #[.val (.int p0), .val (.int p1), .val (.int p2), .val (.int p3), .val (.int p4), .val (.int (1 : Int32)), .val (.int (0 : Int32)), .val (.int (2 : Int32)), .val (.int mn), .val (.int mx), .val (.double (9218868437227405312 : UInt64)), .second, .unset, .unset, .unset, .unset, .unset, .unset, .unset] [])) rfl (hb hby at_35) _ ?_
    show Steps p.tables e below (T2.setTop (mkF m 38 #[.val (.int p0), .val (.int p1), .val (.int p2), .val (.int p3), .val (.int p4), .val (.int (1 : Int32)), .val (.int (0 : Int32)), .val (.int (2 : Int32)), .val (.int mn), .val (.int mx), .val (.double (9218868437227405312 : UInt64)), .second, .unset, .unset, .unset, .unset, .unset, .unset, .unset] [(.double (18442240474082181120 : UInt64))])) _
    refine XS.dstore X2.here hx rfl (hb hby at_38) rfl (l' := #[.val (.int p0), .val (.int p1), .val (.int p2), .val (.int p3), .val (.int p4), .val (.int (1 : Int32)), .val (.int (0 : Int32)), .val (.int (2 : Int32)), .val (.int mn), .val (.int mx), .val (.double (9218868437227405312 : UInt64)), .second, .val (.double (18442240474082181120 : UInt64)), .second, .unset, .unset, .unset, .unset, .unset]) rfl ?_
    show Steps p.tables e below (T2.setTop (mkF m 40 #[.val (.int p0), .val (.int p1), .val (.int p2), .val (.int p3), .val (.int p4), .val (.int (1 : Int32)), .val (.int (0 : Int32)), .val (.int (2 : Int32)), .val (.int mn), .val (.int mx), .val (.double (9218868437227405312 : UInt64)), .second, .val (.double (18442240474082181120 : UInt64)), .second, .unset, .unset, .unset, .unset, .unset] [])) _
    refine XS.iconst X2.here hx rfl (hb hby at_40) ?_
    show Steps p.tables e below (T2.setTop (mkF m 41 #[.val (.int p0), .val (.int p1), .val (.int p2), .val (.int p3), .val (.int p4), .val (.int (1 : Int32)), .val (.int (0 : Int32)), .val (.int (2 : Int32)), .val (.int mn), .val (.int mx), .val (.double (9218868437227405312 : UInt64)), .second, .val (.double (18442240474082181120 : UInt64)), .second, .unset, .unset, .unset, .unset, .unset] [(.int (2 : Int32))])) _
    refine st3 _ ?_
    show Steps p.tables e below (T3.setTop (mkF m 43 #[.val (.int p0), .val (.int p1), .val (.int p2), .val (.int p3), .val (.int p4), .val (.int (1 : Int32)), .val (.int (0 : Int32)), .val (.int (2 : Int32)), .val (.int mn), .val (.int mx), .val (.double (9218868437227405312 : UInt64)), .second, .val (.double (18442240474082181120 : UInt64)), .second, .unset, .unset, .unset, .unset, .unset] [(.ref b3)])) _
    refine XS.astore X3.here hx rfl (hb hby at_43) rfl rfl (l' := #[.val (.int p0), .val (.int p1), .val (.int p2), .val (.int p3), .val (.int p4), .val (.int (1 : Int32)), .val (.int (0 : Int32)), .val (.int (2 : Int32)), .val (.int mn), .val (.int mx), .val (.double (9218868437227405312 : UInt64)), .second, .val (.double (18442240474082181120 : UInt64)), .second, .val (.ref b3), .unset, .unset, .unset, .unset]) rfl ?_
    show Steps p.tables e below (T3.setTop (mkF m 45 #[.val (.int p0), .val (.int p1), .val (.int p2), .val (.int p3), .val (.int p4), .val (.int (1 : Int32)), .val (.int (0 : Int32)), .val (.int (2 : Int32)), .val (.int mn), .val (.int mx), .val (.double (9218868437227405312 : UInt64)), .second, .val (.double (18442240474082181120 : UInt64)), .second, .val (.ref b3), .unset, .unset, .unset, .unset] [])) _
    refine XS.iconst X3.here hx rfl (hb hby at_45) ?_
    show Steps p.tables e below (T3.setTop (mkF m 46 #[.val (.int p0), .val (.int p1), .val (.int p2), .val (.int p3), .val (.int p4), .val (.int (1 : Int32)), .val (.int (0 : Int32)), .val (.int (2 : Int32)), .val (.int mn), .val (.int mx), .val (.double (9218868437227405312 : UInt64)), .second, .val (.double (18442240474082181120 : UInt64)), .second, .val (.ref b3), .unset, .unset, .unset, .unset] [(.int (2 : Int32))])) _
    refine st4 _ ?_
    show Steps p.tables e below (T4.setTop (mkF m 48 #[.val (.int p0), .val (.int p1), .val (.int p2), .val (.int p3), .val (.int p4), .val (.int (1 : Int32)), .val (.int (0 : Int32)), .val (.int (2 : Int32)), .val (.int mn), .val (.int mx), .val (.double (9218868437227405312 : UInt64)), .second, .val (.double (18442240474082181120 : UInt64)), .second, .val (.ref b3), .unset, .unset, .unset, .unset] [(.ref b4)])) _
    refine XS.astore X4.here hx rfl (hb hby at_48) rfl rfl (l' := #[.val (.int p0), .val (.int p1), .val (.int p2), .val (.int p3), .val (.int p4), .val (.int (1 : Int32)), .val (.int (0 : Int32)), .val (.int (2 : Int32)), .val (.int mn), .val (.int mx), .val (.double (9218868437227405312 : UInt64)), .second, .val (.double (18442240474082181120 : UInt64)), .second, .val (.ref b3), .val (.ref b4), .unset, .unset, .unset]) rfl ?_
    show Steps p.tables e below (T4.setTop (mkF m 50 #[.val (.int p0), .val (.int p1), .val (.int p2), .val (.int p3), .val (.int p4), .val (.int (1 : Int32)), .val (.int (0 : Int32)), .val (.int (2 : Int32)), .val (.int mn), .val (.int mx), .val (.double (9218868437227405312 : UInt64)), .second, .val (.double (18442240474082181120 : UInt64)), .second, .val (.ref b3), .val (.ref b4), .unset, .unset, .unset] [])) _
    refine XS.aload X4.here hx rfl (hb hby at_50) rfl rfl ?_
    show Steps p.tables e below (T4.setTop (mkF m 52 #[.val (.int p0), .val (.int p1), .val (.int p2), .val (.int p3), .val (.int p4), .val (.int (1 : Int32)), .val (.int (0 : Int32)), .val (.int (2 : Int32)), .val (.int mn), .val (.int mx), .val (.double (9218868437227405312 : UInt64)), .second, .val (.double (18442240474082181120 : UInt64)), .second, .val (.ref b3), .val (.ref b4), .unset, .unset, .unset] [(.ref b3)])) _
    refine XS.iload X4.here hx rfl (hb hby at_52) rfl ?_
    show Steps p.tables e below (T4.setTop (mkF m 54 #[.val (.int p0), .val (.int p1), .val (.int p2), .val (.int p3), .val (.int p4), .val (.int (1 : Int32)), .val (.int (0 : Int32)), .val (.int (2 : Int32)), .val (.int mn), .val (.int mx), .val (.double (9218868437227405312 : UInt64)), .second, .val (.double (18442240474082181120 : UInt64)), .second, .val (.ref b3), .val (.ref b4), .unset, .unset, .unset] [(.int (1 : Int32)), (.ref b3)])) _
    refine XS.iload X4.here hx rfl (hb hby at_54) rfl ?_
    show Steps p.tables e below (T4.setTop (mkF m 56 #[.val (.int p0), .val (.int p1), .val (.int p2), .val (.int p3), .val (.int p4), .val (.int (1 : Int32)), .val (.int (0 : Int32)), .val (.int (2 : Int32)), .val (.int mn), .val (.int mx), .val (.double (9218868437227405312 : UInt64)), .second, .val (.double (18442240474082181120 : UInt64)), .second, .val (.ref b3), .val (.ref b4), .unset, .unset, .unset] [(.int (2 : Int32)), (.int (1 : Int32)), (.ref b3)])) _
    refine XS.iconst X4.here hx rfl (hb hby at_56) ?_
    show Steps p.tables e below (T4.setTop (mkF m 57 #[.val (.int p0), .val (.int p1), .val (.int p2), .val (.int p3), .val (.int p4), .val (.int (1 : Int32)), .val (.int (0 : Int32)), .val (.int (2 : Int32)), .val (.int mn), .val (.int mx), .val (.double (9218868437227405312 : UInt64)), .second, .val (.double (18442240474082181120 : UInt64)), .second, .val (.ref b3), .val (.ref b4), .unset, .unset, .unset] [(.int (2 : Int32)), (.int (2 : Int32)), (.int (1 : Int32)), (.ref b3)])) _
    refine XS.icmpYes X4.here hx rfl (pc0 := 57) (pc' := 66) rfl (hb hby at_57) rfl (teq (by decide : (2 : Int32) = (2 : Int32))).1 (by decide) (by decide) ?_
    show Steps p.tables e below (T4.setTop (mkF m 66 #[.val (.int p0), .val (.int p1), .val (.int p2), .val (.int p3), .val (.int p4), .val (.int (1 : Int32)), .val (.int (0 : Int32)), .val (.int (2 : Int32)), .val (.int mn), .val (.int mx), .val (.double (9218868437227405312 : UInt64)), .second, .val (.double (18442240474082181120 : UInt64)), .second, .val (.ref b3), .val (.ref b4), .unset, .unset, .unset] [(.int (1 : Int32)), (.ref b3)])) _
    refine XS.dload X4.here hx rfl (hb hby at_66) rfl ?_
    show Steps p.tables e below (T4.setTop (mkF m 68 #[.val (.int p0), .val (.int p1), .val (.int p2), .val (.int p3), .val (.int p4), .val (.int (1 : Int32)), .val (.int (0 : Int32)), .val (.int (2 : Int32)), .val (.int mn), .val (.int mx), .val (.double (9218868437227405312 : UInt64)), .second, .val (.double (18442240474082181120 : UInt64)), .second, .val (.ref b3), .val (.ref b4), .unset, .unset, .unset] [(.double (18442240474082181120 : UInt64)), (.int (1 : Int32)), (.ref b3)])) _
    refine XS.goto X4.here hx rfl (pc0 := 68) (pc' := 74) rfl (hb hby at_68) (by decide) (by decide) ?_
    show Steps p.tables e below (T4.setTop (mkF m 74 #[.val (.int p0), .val (.int p1), .val (.int p2), .val (.int p3), .val (.int p4), .val (.int (1 : Int32)), .val (.int (0 : Int32)), .val (.int (2 : Int32)), .val (.int mn), .val (.int mx), .val (.double (9218868437227405312 : UInt64)), .second, .val (.double (18442240474082181120 : UInt64)), .second, .val (.ref b3), .val (.ref b4), .unset, .unset, .unset] [(.double (18442240474082181120 : UInt64)), (.int (1 : Int32)), (.ref b3)])) _
    refine st7 _ ?_
    show Steps p.tables e below (T7.setTop (mkF m 75 #[.val (.int p0), .val (.int p1), .val (.int p2), .val (.int p3), .val (.int p4), .val (.int (1 : Int32)), .val (.int (0 : Int32)), .val (.int (2 : Int32)), .val (.int mn), .val (.int mx), .val (.double (9218868437227405312 : UInt64)), .second, .val (.double (18442240474082181120 : UInt64)), .second, .val (.ref b3), .val (.ref b4), .unset, .unset, .unset] [])) _
    refine XS.aload X7.here hx rfl (hb hby at_75) rfl rfl ?_
    show Steps p.tables e below (T7.setTop (mkF m 77 #[.val (.int p0), .val (.int p1), .val (.int p2), .val (.int p3), .val (.int p4), .val (.int (1 : Int32)), .val (.int (0 : Int32)), .val (.int (2 : Int32)), .val (.int mn), .val (.int mx), .val (.double (9218868437227405312 : UInt64)), .second, .val (.double (18442240474082181120 : UInt64)), .second, .val (.ref b3), .val (.ref b4), .unset, .unset, .unset] [(.ref b4)])) _
    refine XS.iload X7.here hx rfl (hb hby at_77) rfl ?_
    show Steps p.tables e below (T7.setTop (mkF m 79 #[.val (.int p0), .val (.int p1), .val (.int p2), .val (.int p3), .val (.int p4), .val (.int (1 : Int32)), .val (.int (0 : Int32)), .val (.int (2 : Int32)), .val (.int mn), .val (.int mx), .val (.double (9218868437227405312 : UInt64)), .second, .val (.double (18442240474082181120 : UInt64)), .second, .val (.ref b3), .val (.ref b4), .unset, .unset, .unset] [(.int (1 : Int32)), (.ref b4)])) _
    refine XS.iload X7.here hx rfl (hb hby at_79) rfl ?_
    show Steps p.tables e below (T7.setTop (mkF m 81 #[.val (.int p0), .val (.int p1), .val (.int p2), .val (.int p3), .val (.int p4), .val (.int (1 : Int32)), .val (.int (0 : Int32)), .val (.int (2 : Int32)), .val (.int mn), .val (.int mx), .val (.double (9218868437227405312 : UInt64)), .second, .val (.double (18442240474082181120 : UInt64)), .second, .val (.ref b3), .val (.ref b4), .unset, .unset, .unset] [(.int (2 : Int32)), (.int (1 : Int32)), (.ref b4)])) _
    refine XS.iconst X7.here hx rfl (hb hby at_81) ?_
    show Steps p.tables e below (T7.setTop (mkF m 82 #[.val (.int p0), .val (.int p1), .val (.int p2), .val (.int p3), .val (.int p4), .val (.int (1 : Int32)), .val (.int (0 : Int32)), .val (.int (2 : Int32)), .val (.int mn), .val (.int mx), .val (.double (9218868437227405312 : UInt64)), .second, .val (.double (18442240474082181120 : UInt64)), .second, .val (.ref b3), .val (.ref b4), .unset, .unset, .unset] [(.int (1 : Int32)), (.int (2 : Int32)), (.int (1 : Int32)), (.ref b4)])) _
    refine XS.icmpNo X7.here hx rfl (hb hby at_82) rfl (feq (by decide : ¬ ((2 : Int32) = (1 : Int32)))).1 ?_
    show Steps p.tables e below (T7.setTop (mkF m 85 #[.val (.int p0), .val (.int p1), .val (.int p2), .val (.int p3), .val (.int p4), .val (.int (1 : Int32)), .val (.int (0 : Int32)), .val (.int (2 : Int32)), .val (.int mn), .val (.int mx), .val (.double (9218868437227405312 : UInt64)), .second, .val (.double (18442240474082181120 : UInt64)), .second, .val (.ref b3), .val (.ref b4), .unset, .unset, .unset] [(.int (1 : Int32)), (.ref b4)])) _
    refine XS.iload X7.here hx rfl (hb hby at_85) rfl ?_
    show Steps p.tables e below (T7.setTop (mkF m 87 #[.val (.int p0), .val (.int p1), .val (.int p2), .val (.int p3), .val (.int p4), .val (.int (1 : Int32)), .val (.int (0 : Int32)), .val (.int (2 : Int32)), .val (.int mn), .val (.int mx), .val (.double (9218868437227405312 : UInt64)), .second, .val (.double (18442240474082181120 : UInt64)), .second, .val (.ref b3), .val (.ref b4), .unset, .unset, .unset] [(.int (2 : Int32)), (.int (1 : Int32)), (.ref b4)])) _
    refine XS.iconst X7.here hx rfl (hb hby at_87) ?_
    show Steps p.tables e below (T7.setTop (mkF m 88 #[.val (.int p0), .val (.int p1), .val (.int p2), .val (.int p3), .val (.int p4), .val (.int (1 : Int32)), .val (.int (0 : Int32)), .val (.int (2 : Int32)), .val (.int mn), .val (.int mx), .val (.double (9218868437227405312 : UInt64)), .second, .val (.double (18442240474082181120 : UInt64)), .second, .val (.ref b3), .val (.ref b4), .unset, .unset, .unset] [(.int (2 : Int32)), (.int (2 : Int32)), (.int (1 : Int32)), (.ref b4)])) _
    refine XS.icmpNo X7.here hx rfl (hb hby at_88) rfl (teq (by decide : (2 : Int32) = (2 : Int32))).2 ?_
    show Steps p.tables e below (T7.setTop (mkF m 91 #[.val (.int p0), .val (.int p1), .val (.int p2), .val (.int p3), .val (.int p4), .val (.int (1 : Int32)), .val (.int (0 : Int32)), .val (.int (2 : Int32)), .val (.int mn), .val (.int mx), .val (.double (9218868437227405312 : UInt64)), .second, .val (.double (18442240474082181120 : UInt64)), .second, .val (.ref b3), .val (.ref b4), .unset, .unset, .unset] [(.int (1 : Int32)), (.ref b4)])) _
    refine XS.dload X7.here hx rfl (hb hby at_91) rfl ?_
    show Steps p.tables e below (T7.setTop (mkF m 93 #[.val (.int p0), .val (.int p1), .val (.int p2), .val (.int p3), .val (.int p4), .val (.int (1 : Int32)), .val (.int (0 : Int32)), .val (.int (2 : Int32)), .val (.int mn), .val (.int mx), .val (.double (9218868437227405312 : UInt64)), .second, .val (.double (18442240474082181120 : UInt64)), .second, .val (.ref b3), .val (.ref b4), .unset, .unset, .unset] [(.double (9218868437227405312 : UInt64)), (.int (1 : Int32)), (.ref b4)])) _
    refine XS.goto X7.here hx rfl (pc0 := 93) (pc' := 99) rfl (hb hby at_93) (by decide) (by decide) ?_
    show Steps p.tables e below (T7.setTop (mkF m 99 #[.val (.int p0), .val (.int p1), .val (.int p2), .val (.int p3), .val (.int p4), .val (.int (1 : Int32)), .val (.int (0 : Int32)), .val (.int (2 : Int32)), .val (.int mn), .val (.int mx), .val (.double (9218868437227405312 : UInt64)), .second, .val (.double (18442240474082181120 : UInt64)), .second, .val (.ref b3), .val (.ref b4), .unset, .unset, .unset] [(.double (9218868437227405312 : UInt64)), (.int (1 : Int32)), (.ref b4)])) _
    refine st11 _ ?_
    show Steps p.tables e below (T11.setTop (mkF m 100 #[.val (.int p0), .val (.int p1), .val (.int p2), .val (.int p3), .val (.int p4), .val (.int (1 : Int32)), .val (.int (0 : Int32)), .val (.int (2 : Int32)), .val (.int mn), .val (.int mx), .val (.double (9218868437227405312 : UInt64)), .second, .val (.double (18442240474082181120 : UInt64)), .second, .val (.ref b3), .val (.ref b4), .unset, .unset, .unset] [])) _
    refine XS.aload X11.here hx rfl (hb hby at_100) rfl rfl ?_
    show Steps p.tables e below (T11.setTop (mkF m 102 #[.val (.int p0), .val (.int p1), .val (.int p2), .val (.int p3), .val (.int p4), .val (.int (1 : Int32)), .val (.int (0 : Int32)), .val (.int (2 : Int32)), .val (.int mn), .val (.int mx), .val (.double (9218868437227405312 : UInt64)), .second, .val (.double (18442240474082181120 : UInt64)), .second, .val (.ref b3), .val (.ref b4), .unset, .unset, .unset] [(.ref b3)])) _
    refine XS.iload X11.here hx rfl (hb hby at_102) rfl ?_
    show Steps p.tables e below (T11.setTop (mkF m 104 #[.val (.int p0), .val (.int p1), .val (.int p2), .val (.int p3), .val (.int p4), .val (.int (1 : Int32)), .val (.int (0 : Int32)), .val (.int (2 : Int32)), .val (.int mn), .val (.int mx), .val (.double (9218868437227405312 : UInt64)), .second, .val (.double (18442240474082181120 : UInt64)), .second, .val (.ref b3), .val (.ref b4), .unset, .unset, .unset] [(.int (0 : Int32)), (.ref b3)])) _
    refine XS.iload X11.here hx rfl (hb hby at_104) rfl ?_
    show Steps p.tables e below (T11.setTop (mkF m 106 #[.val (.int p0), .val (.int p1), .val (.int p2), .val (.int p3), .val (.int p4), .val (.int (1 : Int32)), .val (.int (0 : Int32)), .val (.int (2 : Int32)), .val (.int mn), .val (.int mx), .val (.double (9218868437227405312 : UInt64)), .second, .val (.double (18442240474082181120 : UInt64)), .second, .val (.ref b3), .val (.ref b4), .unset, .unset, .unset] [(.int p4), (.int (0 : Int32)), (.ref b3)])) _
    refine XS.i2dS X11.here hx rfl (hb hby at_106) rfl (v := (FP.i2d p4)) rfl ?_
    show Steps p.tables e below (T11.setTop (mkF m 107 #[.val (.int p0), .val (.int p1), .val (.int p2), .val (.int p3), .val (.int p4), .val (.int (1 : Int32)), .val (.int (0 : Int32)), .val (.int (2 : Int32)), .val (.int mn), .val (.int mx), .val (.double (9218868437227405312 : UInt64)), .second, .val (.double (18442240474082181120 : UInt64)), .second, .val (.ref b3), .val (.ref b4), .unset, .unset, .unset] [(.double (FP.i2d p4)), (.int (0 : Int32)), (.ref b3)])) _
    refine st15 _ ?_
    show Steps p.tables e below (T15.setTop (mkF m 108 #[.val (.int p0), .val (.int p1), .val (.int p2), .val (.int p3), .val (.int p4), .val (.int (1 : Int32)), .val (.int (0 : Int32)), .val (.int (2 : Int32)), .val (.int mn), .val (.int mx), .val (.double (9218868437227405312 : UInt64)), .second, .val (.double (18442240474082181120 : UInt64)), .second, .val (.ref b3), .val (.ref b4), .unset, .unset, .unset] [])) _
    refine XS.aload X15.here hx rfl (hb hby at_108) rfl rfl ?_
    show Steps p.tables e below (T15.setTop (mkF m 110 #[.val (.int p0), .val (.int p1), .val (.int p2), .val (.int p3), .val (.int p4), .val (.int (1 : Int32)), .val (.int (0 : Int32)), .val (.int (2 : Int32)), .val (.int mn), .val (.int mx), .val (.double (9218868437227405312 : UInt64)), .second, .val (.double (18442240474082181120 : UInt64)), .second, .val (.ref b3), .val (.ref b4), .unset, .unset, .unset] [(.ref b4)])) _
    refine XS.iload X15.here hx rfl (hb hby at_110) rfl ?_
    show Steps p.tables e below (T15.setTop (mkF m 112 #[.val (.int p0), .val (.int p1), .val (.int p2), .val (.int p3), .val (.int p4), .val (.int (1 : Int32)), .val (.int (0 : Int32)), .val (.int (2 : Int32)), .val (.int mn), .val (.int mx), .val (.double (9218868437227405312 : UInt64)), .second, .val (.double (18442240474082181120 : UInt64)), .second, .val (.ref b3), .val (.ref b4), .unset, .unset, .unset] [(.int (0 : Int32)), (.ref b4)])) _
    refine XS.iloadN X15.here hx rfl (hb hby at_112) rfl ?_
    show Steps p.tables e below (T15.setTop (mkF m 113 #[.val (.int p0), .val (.int p1), .val (.int p2), .val (.int p3), .val (.int p4), .val (.int (1 : Int32)), .val (.int (0 : Int32)), .val (.int (2 : Int32)), .val (.int mn), .val (.int mx), .val (.double (9218868437227405312 : UInt64)), .second, .val (.double (18442240474082181120 : UInt64)), .second, .val (.ref b3), .val (.ref b4), .unset, .unset, .unset] [(.int p2), (.int (0 : Int32)), (.ref b4)])) _
    refine XS.iconst X15.here hx rfl (hb hby at_113) ?_
    show Steps p.tables e below (T15.setTop (mkF m 114 #[.val (.int p0), .val (.int p1), .val (.int p2), .val (.int p3), .val (.int p4), .val (.int (1 : Int32)), .val (.int (0 : Int32)), .val (.int (2 : Int32)), .val (.int mn), .val (.int mx), .val (.double (9218868437227405312 : UInt64)), .second, .val (.double (18442240474082181120 : UInt64)), .second, .val (.ref b3), .val (.ref b4), .unset, .unset, .unset] [(.int (2 : Int32)), (.int p2), (.int (0 : Int32)), (.ref b4)])) _
    refine XS.ishr X15.here hx rfl (hb hby at_114) rfl ?_
    show Steps p.tables e below (T15.setTop (mkF m 115 #[.val (.int p0), .val (.int p1), .val (.int p2), .val (.int p3), .val (.int p4), .val (.int (1 : Int32)), .val (.int (0 : Int32)), .val (.int (2 : Int32)), .val (.int mn), .val (.int mx), .val (.double (9218868437227405312 : UInt64)), .second, .val (.double (18442240474082181120 : UInt64)), .second, .val (.ref b3), .val (.ref b4), .unset, .unset, .unset] [(.int (p2 >>> ((2 : Int32) &&& 31))), (.int (0 : Int32)), (.ref b4)])) _
    refine XS.iconst X15.here hx rfl (hb hby at_115) ?_
    show Steps p.tables e below (T15.setTop (mkF m 116 #[.val (.int p0), .val (.int p1), .val (.int p2), .val (.int p3), .val (.int p4), .val (.int (1 : Int32)), .val (.int (0 : Int32)), .val (.int (2 : Int32)), .val (.int mn), .val (.int mx), .val (.double (9218868437227405312 : UInt64)), .second, .val (.double (18442240474082181120 : UInt64)), .second, .val (.ref b3), .val (.ref b4), .unset, .unset, .unset] [(.int (1 : Int32)), (.int (p2 >>> ((2 : Int32) &&& 31))), (.int (0 : Int32)), (.ref b4)])) _
    refine XS.iand X15.here hx rfl (hb hby at_116) rfl ?_
    show Steps p.tables e below (T15.setTop (mkF m 117 #[.val (.int p0), .val (.int p1), .val (.int p2), .val (.int p3), .val (.int p4), .val (.int (1 : Int32)), .val (.int (0 : Int32)), .val (.int (2 : Int32)), .val (.int mn), .val (.int mx), .val (.double (9218868437227405312 : UInt64)), .second, .val (.double (18442240474082181120 : UInt64)), .second, .val (.ref b3), .val (.ref b4), .unset, .unset, .unset] [(.int ((p2 >>> ((2 : Int32) &&& 31)) &&& (1 : Int32))), (.int (0 : Int32)), (.ref b4)])) _
    refine jn18 _ ?_
    show Steps p.tables e below (T15.setTop (mkF m 128 #[.val (.int p0), .val (.int p1), .val (.int p2), .val (.int p3), .val (.int p4), .val (.int (1 : Int32)), .val (.int (0 : Int32)), .val (.int (2 : Int32)), .val (.int mn), .val (.int mx), .val (.double (9218868437227405312 : UInt64)), .second, .val (.double (18442240474082181120 : UInt64)), .second, .val (.ref b3), .val (.ref b4), .unset, .unset, .unset] [(.double ub), (.int (0 : Int32)), (.ref b4)])) _
    refine st20 _ ?_
    show Steps p.tables e below (T20.setTop (mkF m 129 #[.val (.int p0), .val (.int p1), .val (.int p2), .val (.int p3), .val (.int p4), .val (.int (1 : Int32)), .val (.int (0 : Int32)), .val (.int (2 : Int32)), .val (.int mn), .val (.int mx), .val (.double (9218868437227405312 : UInt64)), .second, .val (.double (18442240474082181120 : UInt64)), .second, .val (.ref b3), .val (.ref b4), .unset, .unset, .unset] [])) _
    refine st23 _ ?_
    show Steps p.tables e below (T23.setTop (mkF m 132 #[.val (.int p0), .val (.int p1), .val (.int p2), .val (.int p3), .val (.int p4), .val (.int (1 : Int32)), .val (.int (0 : Int32)), .val (.int (2 : Int32)), .val (.int mn), .val (.int mx), .val (.double (9218868437227405312 : UInt64)), .second, .val (.double (18442240474082181120 : UInt64)), .second, .val (.ref b3), .val (.ref b4), .unset, .unset, .unset] [(.ref b23)])) _
    refine XS.dup X23.here hx rfl (hb hby at_132) rfl rfl ?_
    show Steps p.tables e below (T23.setTop (mkF m 133 #[.val (.int p0), .val (.int p1), .val (.int p2), .val (.int p3), .val (.int p4), .val (.int (1 : Int32)), .val (.int (0 : Int32)), .val (.int (2 : Int32)), .val (.int mn), .val (.int mx), .val (.double (9218868437227405312 : UInt64)), .second, .val (.double (18442240474082181120 : UInt64)), .second, .val (.ref b3), .val (.ref b4), .unset, .unset, .unset] [(.ref b23), (.ref b23)])) _
    refine XS.aload X23.here hx rfl (hb hby at_133) rfl rfl ?_
    show Steps p.tables e below (T23.setTop (mkF m 135 #[.val (.int p0), .val (.int p1), .val (.int p2), .val (.int p3), .val (.int p4), .val (.int (1 : Int32)), .val (.int (0 : Int32)), .val (.int (2 : Int32)), .val (.int mn), .val (.int mx), .val (.double (9218868437227405312 : UInt64)), .second, .val (.double (18442240474082181120 : UInt64)), .second, .val (.ref b3), .val (.ref b4), .unset, .unset, .unset] [(.ref b3), (.ref b23), (.ref b23)])) _
    refine XS.aload X23.here hx rfl (hb hby at_135) rfl rfl ?_
    show Steps p.tables e below (T23.setTop (mkF m 137 #[.val (.int p0), .val (.int p1), .val (.int p2), .val (.int p3), .val (.int p4), .val (.int (1 : Int32)), .val (.int (0 : Int32)), .val (.int (2 : Int32)), .val (.int mn), .val (.int mx), .val (.double (9218868437227405312 : UInt64)), .second, .val (.double (18442240474082181120 : UInt64)), .second, .val (.ref b3), .val (.ref b4), .unset, .unset, .unset] [(.ref b4), (.ref b3), (.ref b23), (.ref b23)])) _
    refine XS.iconst X23.here hx rfl (hb hby at_137) ?_
    show Steps p.tables e below (T23.setTop (mkF m 138 #[.val (.int p0), .val (.int p1), .val (.int p2), .val (.int p3), .val (.int p4), .val (.int (1 : Int32)), .val (.int (0 : Int32)), .val (.int (2 : Int32)), .val (.int mn), .val (.int mx), .val (.double (9218868437227405312 : UInt64)), .second, .val (.double (18442240474082181120 : UInt64)), .second, .val (.ref b3), .val (.ref b4), .unset, .unset, .unset] [(.int (2 : Int32)), (.ref b4), (.ref b3), (.ref b23), (.ref b23)])) _
    refine st26 _ ?_
    show Steps p.tables e below (T26.setTop (mkF m 140 #[.val (.int p0), .val (.int p1), .val (.int p2), .val (.int p3), .val (.int p4), .val (.int (1 : Int32)), .val (.int (0 : Int32)), .val (.int (2 : Int32)), .val (.int mn), .val (.int mx), .val (.double (9218868437227405312 : UInt64)), .second, .val (.double (18442240474082181120 : UInt64)), .second, .val (.ref b3), .val (.ref b4), .unset, .unset, .unset] [(.ref b26), (.ref b4), (.ref b3), (.ref b23), (.ref b23)])) _
    refine XS.dup X26.here hx rfl (hb hby at_140) rfl rfl ?_
    show Steps p.tables e below (T26.setTop (mkF m 141 #[.val (.int p0), .val (.int p1), .val (.int p2), .val (.int p3), .val (.int p4), .val (.int (1 : Int32)), .val (.int (0 : Int32)), .val (.int (2 : Int32)), .val (.int mn), .val (.int mx), .val (.double (9218868437227405312 : UInt64)), .second, .val (.double (18442240474082181120 : UInt64)), .second, .val (.ref b3), .val (.ref b4), .unset, .unset, .unset] [(.ref b26), (.ref b26), (.ref b4), (.ref b3), (.ref b23), (.ref b23)])) _
    refine XS.iconst X26.here hx rfl (hb hby at_141) ?_
    show Steps p.tables e below (T26.setTop (mkF m 142 #[.val (.int p0), .val (.int p1), .val (.int p2), .val (.int p3), .val (.int p4), .val (.int (1 : Int32)), .val (.int (0 : Int32)), .val (.int (2 : Int32)), .val (.int mn), .val (.int mx), .val (.double (9218868437227405312 : UInt64)), .second, .val (.double (18442240474082181120 : UInt64)), .second, .val (.ref b3), .val (.ref b4), .unset, .unset, .unset] [(.int (0 : Int32)), (.ref b26), (.ref b26), (.ref b4), (.ref b3), (.ref b23), (.ref b23)])) _
    refine XS.iconst X26.here hx rfl (hb hby at_142) ?_
    show Steps p.tables e below (T26.setTop (mkF m 143 #[.val (.int p0), .val (.int p1), .val (.int p2), .val (.int p3), .val (.int p4), .val (.int (1 : Int32)), .val (.int (0 : Int32)), .val (.int (2 : Int32)), .val (.int mn), .val (.int mx), .val (.double (9218868437227405312 : UInt64)), .second, .val (.double (18442240474082181120 : UInt64)), .second, .val (.ref b3), .val (.ref b4), .unset, .unset, .unset] [(.int (-1 : Int32)), (.int (0 : Int32)), (.ref b26), (.ref b26), (.ref b4), (.ref b3), (.ref b23), (.ref b23)])) _
    refine st34 _ ?_
    show Steps p.tables e below (T34.setTop (mkF m 144 #[.val (.int p0), .val (.int p1), .val (.int p2), .val (.int p3), .val (.int p4), .val (.int (1 : Int32)), .val (.int (0 : Int32)), .val (.int (2 : Int32)), .val (.int mn), .val (.int mx), .val (.double (9218868437227405312 : UInt64)), .second, .val (.double (18442240474082181120 : UInt64)), .second, .val (.ref b3), .val (.ref b4), .unset, .unset, .unset] [(.ref b26), (.ref b4), (.ref b3), (.ref b23), (.ref b23)])) _
    refine XS.dup X34.here hx rfl (hb hby at_144) rfl rfl ?_
    show Steps p.tables e below (T34.setTop (mkF m 145 #[.val (.int p0), .val (.int p1), .val (.int p2), .val (.int p3), .val (.int p4), .val (.int (1 : Int32)), .val (.int (0 : Int32)), .val (.int (2 : Int32)), .val (.int mn), .val (.int mx), .val (.double (9218868437227405312 : UInt64)), .second, .val (.double (18442240474082181120 : UInt64)), .second, .val (.ref b3), .val (.ref b4), .unset, .unset, .unset] [(.ref b26), (.ref b26), (.ref b4), (.ref b3), (.ref b23), (.ref b23)])) _
    refine XS.iconst X34.here hx rfl (hb hby at_145) ?_
    show Steps p.tables e below (T34.setTop (mkF m 146 #[.val (.int p0), .val (.int p1), .val (.int p2), .val (.int p3), .val (.int p4), .val (.int (1 : Int32)), .val (.int (0 : Int32)), .val (.int (2 : Int32)), .val (.int mn), .val (.int mx), .val (.double (9218868437227405312 : UInt64)), .second, .val (.double (18442240474082181120 : UInt64)), .second, .val (.ref b3), .val (.ref b4), .unset, .unset, .unset] [(.int (1 : Int32)), (.ref b26), (.ref b26), (.ref b4), (.ref b3), (.ref b23), (.ref b23)])) _
    refine XS.iconst X34.here hx rfl (hb hby at_146) ?_
    show Steps p.tables e below (T34.setTop (mkF m 147 #[.val (.int p0), .val (.int p1), .val (.int p2), .val (.int p3), .val (.int p4), .val (.int (1 : Int32)), .val (.int (0 : Int32)), .val (.int (2 : Int32)), .val (.int mn), .val (.int mx), .val (.double (9218868437227405312 : UInt64)), .second, .val (.double (18442240474082181120 : UInt64)), .second, .val (.ref b3), .val (.ref b4), .unset, .unset, .unset] [(.int (-1 : Int32)), (.int (1 : Int32)), (.ref b26), (.ref b26), (.ref b4), (.ref b3), (.ref b23), (.ref b23)])) _
    refine st44 _ ?_
    show Steps p.tables e below (T44.setTop (mkF m 148 #[.val (.int p0), .val (.int p1), .val (.int p2), .val (.int p3), .val (.int p4), .val (.int (1 : Int32)), .val (.int (0 : Int32)), .val (.int (2 : Int32)), .val (.int mn), .val (.int mx), .val (.double (9218868437227405312 : UInt64)), .second, .val (.double (18442240474082181120 : UInt64)), .second, .val (.ref b3), .val (.ref b4), .unset, .unset, .unset] [(.ref b26), (.ref b4), (.ref b3), (.ref b23), (.ref b23)])) _
    refine st53.trans ?_
    show Steps p.tables e below (T53.setTop (mkF m 151 #[.val (.int p0), .val (.int p1), .val (.int p2), .val (.int p3), .val (.int p4), .val (.int (1 : Int32)), .val (.int (0 : Int32)), .val (.int (2 : Int32)), .val (.int mn), .val (.int mx), .val (.double (9218868437227405312 : UInt64)), .second, .val (.double (18442240474082181120 : UInt64)), .second, .val (.ref b3), .val (.ref b4), .unset, .unset, .unset] [(.ref b23)])) _
    refine XS.astore X53.here hx rfl (hb hby at_151) rfl rfl (l' := #[.val (.int p0), .val (.int p1), .val (.int p2), .val (.int p3), .val (.int p4), .val (.int (1 : Int32)), .val (.int (0 : Int32)), .val (.int (2 : Int32)), .val (.int mn), .val (.int mx), .val (.double (9218868437227405312 : UInt64)), .second, .val (.double (18442240474082181120 : UInt64)), .second, .val (.ref b3), .val (.ref b4), .val (.ref b23), .unset, .unset]) rfl ?_
    show Steps p.tables e below (T53.setTop (mkF m 153 #[.val (.int p0), .val (.int p1), .val (.int p2), .val (.int p3), .val (.int p4), .val (.int (1 : Int32)), .val (.int (0 : Int32)), .val (.int (2 : Int32)), .val (.int mn), .val (.int mx), .val (.double (9218868437227405312 : UInt64)), .second, .val (.double (18442240474082181120 : UInt64)), .second, .val (.ref b3), .val (.ref b4), .val (.ref b23), .unset, .unset] [])) _
    refine XS.aload X53.here hx rfl (hb hby at_153) rfl rfl ?_
    show Steps p.tables e below (T53.setTop (mkF m 155 #[.val (.int p0), .val (.int p1), .val (.int p2), .val (.int p3), .val (.int p4), .val (.int (1 : Int32)), .val (.int (0 : Int32)), .val (.int (2 : Int32)), .val (.int mn), .val (.int mx), .val (.double (9218868437227405312 : UInt64)), .second, .val (.double (18442240474082181120 : UInt64)), .second, .val (.ref b3), .val (.ref b4), .val (.ref b23), .unset, .unset] [(.ref b23)])) _
    refine XS.iload X53.here hx rfl (hb hby at_155) rfl ?_
    show Steps p.tables e below (T53.setTop (mkF m 157 #[.val (.int p0), .val (.int p1), .val (.int p2), .val (.int p3), .val (.int p4), .val (.int (1 : Int32)), .val (.int (0 : Int32)), .val (.int (2 : Int32)), .val (.int mn), .val (.int mx), .val (.double (9218868437227405312 : UInt64)), .second, .val (.double (18442240474082181120 : UInt64)), .second, .val (.ref b3), .val (.ref b4), .val (.ref b23), .unset, .unset] [(.int (1 : Int32)), (.ref b23)])) _
    refine st62.trans ?_
    show Steps p.tables e below (T62.setTop (mkF m 160 #[.val (.int p0), .val (.int p1), .val (.int p2), .val (.int p3), .val (.int p4), .val (.int (1 : Int32)), .val (.int (0 : Int32)), .val (.int (2 : Int32)), .val (.int mn), .val (.int mx), .val (.double (9218868437227405312 : UInt64)), .second, .val (.double (18442240474082181120 : UInt64)), .second, .val (.ref b3), .val (.ref b4), .val (.ref b23), .unset, .unset] [(.double (18442240474082181120 : UInt64))])) _
    refine XS.dstore X62.here hx rfl (hb hby at_160) rfl (l' := #[.val (.int p0), .val (.int p1), .val (.int p2), .val (.int p3), .val (.int p4), .val (.int (1 : Int32)), .val (.int (0 : Int32)), .val (.int (2 : Int32)), .val (.int mn), .val (.int mx), .val (.double (9218868437227405312 : UInt64)), .second, .val (.double (18442240474082181120 : UInt64)), .second, .val (.ref b3), .val (.ref b4), .val (.ref b23), .val (.double (18442240474082181120 : UInt64)), .second]) rfl ?_
    show Steps p.tables e below (T62.setTop (mkF m 162 #[.val (.int p0), .val (.int p1), .val (.int p2), .val (.int p3), .val (.int p4), .val (.int (1 : Int32)), .val (.int (0 : Int32)), .val (.int (2 : Int32)), .val (.int mn), .val (.int mx), .val (.double (9218868437227405312 : UInt64)), .second, .val (.double (18442240474082181120 : UInt64)), .second, .val (.ref b3), .val (.ref b4), .val (.ref b23), .val (.double (18442240474082181120 : UInt64)), .second] [])) _
    refine XS.iload X62.here hx rfl (hb hby at_162) rfl ?_
    show Steps p.tables e below (T62.setTop (mkF m 164 #[.val (.int p0), .val (.int p1), .val (.int p2), .val (.int p3), .val (.int p4), .val (.int (1 : Int32)), .val (.int (0 : Int32)), .val (.int (2 : Int32)), .val (.int mn), .val (.int mx), .val (.double (9218868437227405312 : UInt64)), .second, .val (.double (18442240474082181120 : UInt64)), .second, .val (.ref b3), .val (.ref b4), .val (.ref b23), .val (.double (18442240474082181120 : UInt64)), .second] [(.int (2 : Int32))])) _
    refine XS.ifYes X62.here hx rfl (pc0 := 164) (pc' := 191) rfl (hb hby at_164) rfl ((if0 _ _).trans (feq (by decide : ¬ ((2 : Int32) = (0 : Int32)))).2) (by decide) (by decide) ?_
    show Steps p.tables e below (T62.setTop (mkF m 191 #[.val (.int p0), .val (.int p1), .val (.int p2), .val (.int p3), .val (.int p4), .val (.int (1 : Int32)), .val (.int (0 : Int32)), .val (.int (2 : Int32)), .val (.int mn), .val (.int mx), .val (.double (9218868437227405312 : UInt64)), .second, .val (.double (18442240474082181120 : UInt64)), .second, .val (.ref b3), .val (.ref b4), .val (.ref b23), .val (.double (18442240474082181120 : UInt64)), .second] [])) _
    refine XS.iload X62.here hx rfl (hb hby at_191) rfl ?_
    show Steps p.tables e below (T62.setTop (mkF m 193 #[.val (.int p0), .val (.int p1), .val (.int p2), .val (.int p3), .val (.int p4), .val (.int (1 : Int32)), .val (.int (0 : Int32)), .val (.int (2 : Int32)), .val (.int mn), .val (.int mx), .val (.double (9218868437227405312 : UInt64)), .second, .val (.double (18442240474082181120 : UInt64)), .second, .val (.ref b3), .val (.ref b4), .val (.ref b23), .val (.double (18442240474082181120 : UInt64)), .second] [(.int (2 : Int32))])) _
    refine XS.iconst X62.here hx rfl (hb hby at_193) ?_
    show Steps p.tables e below (T62.setTop (mkF m 194 #[.val (.int p0), .val (.int p1), .val (.int p2), .val (.int p3), .val (.int p4), .val (.int (1 : Int32)), .val (.int (0 : Int32)), .val (.int (2 : Int32)), .val (.int mn), .val (.int mx), .val (.double (9218868437227405312 : UInt64)), .second, .val (.double (18442240474082181120 : UInt64)), .second, .val (.ref b3), .val (.ref b4), .val (.ref b23), .val (.double (18442240474082181120 : UInt64)), .second] [(.int (1 : Int32)), (.int (2 : Int32))])) _
    refine XS.icmpYes X62.here hx rfl (pc0 := 194) (pc' := 212) rfl (hb hby at_194) rfl (feq (by decide : ¬ ((2 : Int32) = (1 : Int32)))).2 (by decide) (by decide) ?_
    show Steps p.tables e below (T62.setTop (mkF m 212 #[.val (.int p0), .val (.int p1), .val (.int p2), .val (.int p3), .val (.int p4), .val (.int (1 : Int32)), .val (.int (0 : Int32)), .val (.int (2 : Int32)), .val (.int mn), .val (.int mx), .val (.double (9218868437227405312 : UInt64)), .second, .val (.double (18442240474082181120 : UInt64)), .second, .val (.ref b3), .val (.ref b4), .val (.ref b23), .val (.double (18442240474082181120 : UInt64)), .second] [])) _
    refine XS.dload X62.here hx rfl (hb hby at_212) rfl ?_
    show Steps p.tables e below (T62.setTop (mkF m 214 #[.val (.int p0), .val (.int p1), .val (.int p2), .val (.int p3), .val (.int p4), .val (.int (1 : Int32)), .val (.int (0 : Int32)), .val (.int (2 : Int32)), .val (.int mn), .val (.int mx), .val (.double (9218868437227405312 : UInt64)), .second, .val (.double (18442240474082181120 : UInt64)), .second, .val (.ref b3), .val (.ref b4), .val (.ref b23), .val (.double (18442240474082181120 : UInt64)), .second] [(.double (18442240474082181120 : UInt64))])) _
    refine XS.dload X62.here hx rfl (hb hby at_214) rfl ?_
    show Steps p.tables e below (T62.setTop (mkF m 216 #[.val (.int p0), .val (.int p1), .val (.int p2), .val (.int p3), .val (.int p4), .val (.int (1 : Int32)), .val (.int (0 : Int32)), .val (.int (2 : Int32)), .val (.int mn), .val (.int mx), .val (.double (9218868437227405312 : UInt64)), .second, .val (.double (18442240474082181120 : UInt64)), .second, .val (.ref b3), .val (.ref b4), .val (.ref b23), .val (.double (18442240474082181120 : UInt64)), .second] [(.double (18442240474082181120 : UInt64)), (.double (18442240474082181120 : UInt64))])) _
    refine XS.dcmpS X62.here hx rfl (hb hby at_216) rfl (v := (0 : Int32)) hd216 ?_
    show Steps p.tables e below (T62.setTop (mkF m 217 #[.val (.int p0), .val (.int p1), .val (.int p2), .val (.int p3), .val (.int p4), .val (.int (1 : Int32)), .val (.int (0 : Int32)), .val (.int (2 : Int32)), .val (.int mn), .val (.int mx), .val (.double (9218868437227405312 : UInt64)), .second, .val (.double (18442240474082181120 : UInt64)), .second, .val (.ref b3), .val (.ref b4), .val (.ref b23), .val (.double (18442240474082181120 : UInt64)), .second] [(.int (0 : Int32))])) _
    refine XS.ifNo X62.here hx rfl (hb hby at_217) rfl ((if0 _ _).trans (teq (by decide : (0 : Int32) = (0 : Int32))).2) ?_
    show Steps p.tables e below (T62.setTop (mkF m 220 #[.val (.int p0), .val (.int p1), .val (.int p2), .val (.int p3), .val (.int p4), .val (.int (1 : Int32)), .val (.int (0 : Int32)), .val (.int (2 : Int32)), .val (.int mn), .val (.int mx), .val (.double (9218868437227405312 : UInt64)), .second, .val (.double (18442240474082181120 : UInt64)), .second, .val (.ref b3), .val (.ref b4), .val (.ref b23), .val (.double (18442240474082181120 : UInt64)), .second] [])) _
    refine XS.iconst X62.here hx rfl (hb hby at_220) ?_
    show Steps p.tables e below (T62.setTop (mkF m 221 #[.val (.int p0), .val (.int p1), .val (.int p2), .val (.int p3), .val (.int p4), .val (.int (1 : Int32)), .val (.int (0 : Int32)), .val (.int (2 : Int32)), .val (.int mn), .val (.int mx), .val (.double (9218868437227405312 : UInt64)), .second, .val (.double (18442240474082181120 : UInt64)), .second, .val (.ref b3), .val (.ref b4), .val (.ref b23), .val (.double (18442240474082181120 : UInt64)), .second] [(.int (1 : Int32))])) _
    refine XS.goto X62.here hx rfl (pc0 := 221) (pc' := 225) rfl (hb hby at_221) (by decide) (by decide) ?_
    show Steps p.tables e below (T62.setTop (mkF m 225 #[.val (.int p0), .val (.int p1), .val (.int p2), .val (.int p3), .val (.int p4), .val (.int (1 : Int32)), .val (.int (0 : Int32)), .val (.int (2 : Int32)), .val (.int mn), .val (.int mx), .val (.double (9218868437227405312 : UInt64)), .second, .val (.double (18442240474082181120 : UInt64)), .second, .val (.ref b3), .val (.ref b4), .val (.ref b23), .val (.double (18442240474082181120 : UInt64)), .second] [(.int (1 : Int32))])) _
    exact retN X62 hx (t := .boolean) Bd.returns (by simp) (hb hby at_225) hr
  · show Q0 n0 _ T62.heap _
    rw [e62]
    exact ⟨rfl, N62⟩
set_option maxRecDepth 65536 in
set_option maxHeartbeats 40000000 in
theorem rm0_30 (l : Launch) (Z : State) (a0 : Array Value) (hw : ∀ d ∈ tables_1, d.before a0 Z = true) (ws : List Jvm.Cond) (p0 : Int32) (p1 : Int32) (p2 : Int32) (p3 : Int32) (p4 : Int32) (mn : Int32) (mx : Int32) (ub : UInt64) (h0 : Heap) (n0 : Nat) (Z0 : n0 ≤ h0.size) (hv2 : (p3 &&& (1 : Int32)) = (0 : Int32)) (hv13 : (p2 &&& (3 : Int32)) = (3 : Int32)) (hr_r_18 : (if p1 < p0 then p1 else p0) = mn) (hr_r_25 : (if p0 < p1 then p1 else p0) = mx) (hj_ub : (if ((p2 >>> ((2 : Int32) &&& 31)) &&& (1 : Int32)) = (0 : Int32) then (FP.i2d p4) else (9218868437227405312 : UInt64)) = ub) (hd9_157 : (cmpValue (FP.dcmp (FP.i2d mx) (9218868437227405312 : UInt64)) .l) = (-1 : Int32)) (nn32_157 : Jvm.Free.Fl.NoNaN64 (FP.dadd (18442240474082181120 : UInt64) (FP.i2d mx))) (nn36_157 : Jvm.Free.Fl.NoNaN64 (FP.ddiv (FP.dadd (18442240474082181120 : UInt64) (FP.i2d mx)) (4611686018427387904 : UInt64))) (hd216 : (cmpValue (FP.dcmp (FP.ddiv (FP.dadd (18442240474082181120 : UInt64) (FP.i2d mx)) (4611686018427387904 : UInt64)) (18442240474082181120 : UInt64)) .l) = (0 : Int32)) :
    MetFree l x (head1 (Jvm.Cond.code x code maxLocals ret :: ws) room_1) (fun a U => a = #[(.int p0), (.int p1), (.int p2), (.int p3), (.int p4)] ∧ Z.Warmed39 U.vm ∧ U.heap = h0) (fun _ _ _ _ _ => True) (fun _ U o U' => ∃ v L, o = .returned v ∧ Q0 n0 v U'.heap L ∧ FrameEnd U o U' L room_1.cells room_1.slots) := by
  refine MetFree.of_bodySF (plainFor_of_name pn_com_example_hedge_hedge_ValueBoundsValuePinLaw) hisR ?_
  intro p e s m args below meth c s₁ Bd hml0 hP hK
  obtain ⟨rfl, hZ, hh⟩ := hP
  have hx := Bd.exec
  have hby := Bd.bytes
  have hml : c.maxLocals = 19 := hml0
  have hown : s.vm.findClass "com/example/hedge/hedge/ValueBoundsValuePinLaw" = some m.cls := findClass_of_methodNamed Bd.named
  have hnm := (name_of_methodNamed Bd.named Bd.method).1
  have X0 : Stand p l e room_1 s m #[(.int p0), (.int p1), (.int p2), (.int p3), (.int p4)] below meth c s₁ [] 0 0 := Stand.of_body Bd
  have e0 : s₁.heap = h0 := by rw [← hh, Bd.state]; rfl
  have N0 := Fr.nil n0
  have pre0 : ∀ t, Steps p.tables e below (s₁.setTop (mkF m 0 #[.val (.int p0), .val (.int p1), .val (.int p2), .val (.int p3), .val (.int p4), .unset, .unset, .unset, .unset, .unset, .unset, .unset, .unset, .unset, .unset, .unset, .unset, .unset, .unset] [])) t → Steps p.tables e below (s₁.setTop (entryFrame m #[(.int p0), (.int p1), (.int p2), (.int p3), (.int p4)] maxLocals)) t := fun t k => castTop (ef_0_IIIII m p0 p1 p2 p3 p4) k
  obtain ⟨_, _, ⟨T1, L1, k1, n1⟩, -, X1, ⟨Lc1, hQ1, l1, y1, z1⟩, st1⟩ := Jvm.LawKit.callS X0 hx (y := (⟨"java/lang/Math", "min", "(II)I"⟩ : MethodName)) hown (mvT hZ (hw _ (List.mem_of_getElem? (i := 0) rfl))) (mvT hZ (hw _ (List.mem_of_getElem? (i := 1) rfl))) (mvT hZ (hw _ (List.mem_of_getElem? (i := 2) rfl))) (mvT hZ (hw _ (List.mem_of_getElem? (i := 3) rfl))) (by decide) (backOf (W := 0) (rm1M l Z a0 hw [] p0 p1 mn h0 n0 Z0 hr_r_18) hZ (hw _ (List.mem_of_getElem? (i := 3) rfl)) (hw _ (List.mem_of_getElem? (i := 2) rfl)) (by decide) (by decide)) (g := (mkF m 18 #[.val (.int p0), .val (.int p1), .val (.int p2), .val (.int p3), .val (.int p4), .val (.int (0 : Int32)), .val (.int (1 : Int32)), .val (.int (3 : Int32)), .unset, .unset, .unset, .unset, .unset, .unset, .unset, .unset, .unset, .unset, .unset] [(.int p1), (.int p0)])) rfl (by rw [hml]; rfl) (argsL := [(.int p0), (.int p1)]) (rest := []) (lenOf pd_1 rfl) rfl (by show 2 * 0 + _ ≤ _; exact Nat.le_of_eq rfl) (hb hby at_18) (fun _ _ => ⟨rfl, e0, (by decide : 0 + 0 ≤ _), (by decide : 0 + 0 ≤ _)⟩)
  dsimp only [Pt.U, Pt.locs, Pt.cells, Pt.slots] at X1 l1 y1 z1 st1 hQ1
  subst l1 y1 z1
  obtain ⟨rfl, N1q, eh1⟩ := hQ1
  have N1 := Fr.app N0 N1q
  have e1 : T1.heap = h0 := eh1
  obtain ⟨_, _, ⟨T2, L2, k2, n2⟩, -, X2, ⟨Lc2, hQ2, l2, y2, z2⟩, st2⟩ := Jvm.LawKit.callS X1 hx (y := (⟨"java/lang/Math", "max", "(II)I"⟩ : MethodName)) hown (mvT hZ (hw _ (List.mem_of_getElem? (i := 4) rfl))) (mvT hZ (hw _ (List.mem_of_getElem? (i := 5) rfl))) (mvT hZ (hw _ (List.mem_of_getElem? (i := 2) rfl))) (mvT hZ (hw _ (List.mem_of_getElem? (i := 6) rfl))) (by decide) (backOf (W := 0) (rm2M l Z a0 hw [] p0 p1 mx h0 n0 Z0 hr_r_25) hZ (hw _ (List.mem_of_getElem? (i := 6) rfl)) (hw _ (List.mem_of_getElem? (i := 2) rfl)) (by decide) (by decide)) (g := (mkF m 25 #[.val (.int p0), .val (.int p1), .val (.int p2), .val (.int p3), .val (.int p4), .val (.int (0 : Int32)), .val (.int (1 : Int32)), .val (.int (3 : Int32)), .val (.int mn), .unset, .unset, .unset, .unset, .unset, .unset, .unset, .unset, .unset, .unset] [(.int p1), (.int p0)])) rfl (by rw [hml]; rfl) (argsL := [(.int p0), (.int p1)]) (rest := []) (lenOf pd_1 rfl) rfl (by show 2 * 0 + _ ≤ _; exact Nat.le_of_eq rfl) (hb hby at_25) (fun _ _ => ⟨rfl, e1, (by decide : 0 + 0 ≤ _), (by decide : 0 + 0 ≤ _)⟩)
  dsimp only [Pt.U, Pt.locs, Pt.cells, Pt.slots] at X2 l2 y2 z2 st2 hQ2
  subst l2 y2 z2
  obtain ⟨rfl, N2q, eh2⟩ := hQ2
  have N2 := Fr.app N1 N2q
  have e2 : T2.heap = h0 := eh2
  obtain ⟨T3, h3, k3, X3, e3, E3, A3, st3⟩ := newP X2 hx hZ (hw _ (List.mem_of_getElem? (i := 9) rfl)) e2 (g := (mkF m 41 #[.val (.int p0), .val (.int p1), .val (.int p2), .val (.int p3), .val (.int p4), .val (.int (0 : Int32)), .val (.int (1 : Int32)), .val (.int (3 : Int32)), .val (.int mn), .val (.int mx), .val (.double (9218868437227405312 : UInt64)), .second, .val (.double (18442240474082181120 : UInt64)), .second, .unset, .unset, .unset, .unset, .unset] [(.int (2 : Int32))])) rfl (hb hby at_41) rfl (by decide) (cap := 2) (by decide) (by decide) (by decide) (by decide)
  obtain ⟨b3, g3⟩ : ∃ z, z = h0.size := ⟨_, rfl⟩
  rw [← g3] at A3 st3
  have g_b3 : n0 ≤ b3 := Nat.le_trans Z0 (Nat.le_of_eq g3.symm)
  have sz_b3 : h0.size ≤ b3 := Nat.le_trans (Keep.refl h0 []).1 (Nat.le_of_eq g3.symm)
  have K3 : Keep h0 h3 [] := (Keep.refl h0 []).ext E3
  have Zs3 := Nat.le_trans Z0 E3.1
  have V3 : Arv Z h3 b3 k3 .double (2 : Int32) [(.double (0 : UInt64)), (.double (0 : UInt64))] (.double (0 : UInt64)) := (Arv.new A3 (by decide)).pad (pad_rep [] (.double (0 : UInt64)) 2)
  obtain ⟨T4, h4, k4, X4, e4, E4, A4, st4⟩ := newP X3 hx hZ (hw _ (List.mem_of_getElem? (i := 9) rfl)) e3 (g := (mkF m 46 #[.val (.int p0), .val (.int p1), .val (.int p2), .val (.int p3), .val (.int p4), .val (.int (0 : Int32)), .val (.int (1 : Int32)), .val (.int (3 : Int32)), .val (.int mn), .val (.int mx), .val (.double (9218868437227405312 : UInt64)), .second, .val (.double (18442240474082181120 : UInt64)), .second, .val (.ref b3), .unset, .unset, .unset, .unset] [(.int (2 : Int32))])) rfl (hb hby at_46) rfl (by decide) (cap := 2) (by decide) (by decide) (by decide) (by decide)
  obtain ⟨b4, g4⟩ : ∃ z, z = h3.size := ⟨_, rfl⟩
  rw [← g4] at A4 st4
  have ne_b3_b4 : b3 ≠ b4 := Nat.ne_of_lt (Nat.lt_of_lt_of_le V3.lt (Nat.le_of_eq g4.symm))
  have g_b4 : n0 ≤ b4 := Nat.le_trans Zs3 (Nat.le_of_eq g4.symm)
  have sz_b4 : h0.size ≤ b4 := Nat.le_trans K3.1 (Nat.le_of_eq g4.symm)
  have f5 := V3.ext E4
  have K4 : Keep h0 h4 [] := K3.ext E4
  have Zs4 := Nat.le_trans Zs3 E4.1
  have V4 : Arv Z h4 b4 k4 .double (2 : Int32) [(.double (0 : UInt64)), (.double (0 : UInt64))] (.double (0 : UInt64)) := (Arv.new A4 (by decide)).pad (pad_rep [] (.double (0 : UInt64)) 2)
  obtain ⟨cq6, Arq6, qq6, Sq6, Nq6, Hq6, Gq6⟩ := id f5
  obtain ⟨T7, h7, X7, e7, W7, st7⟩ := stD X4 hx hZ e4 Arq6 (j := (0 : Int32)) (inb_of Sq6 ⟨by decide, by decide⟩) (g := (mkF m 74 #[.val (.int p0), .val (.int p1), .val (.int p2), .val (.int p3), .val (.int p4), .val (.int (0 : Int32)), .val (.int (1 : Int32)), .val (.int (3 : Int32)), .val (.int mn), .val (.int mx), .val (.double (9218868437227405312 : UInt64)), .second, .val (.double (18442240474082181120 : UInt64)), .second, .val (.ref b3), .val (.ref b4), .unset, .unset, .unset] [(.double (18442240474082181120 : UInt64)), (.int (0 : Int32)), (.ref b3)])) rfl rfl (hb hby at_74)
  have f8 := V4.other W7 (Ne.symm ne_b3_b4)
  have K7 : Keep h0 h7 [] := K4.wr W7 (Or.inr sz_b3)
  have Zs7 := Nat.le_trans Zs4 (Keep.of_wr W7).1
  have N7 := Fr.snoc X7 N2 g_b3
  have f9 : Arv Z h7 b3 k3 .double (2 : Int32) [(.double (18442240474082181120 : UInt64)), (.double (0 : UInt64))] (.double (0 : UInt64)) := Arv.set Arq6 qq6 Sq6 Nq6 Hq6 Gq6 rfl W7 0 rfl (Nat.le_of_ble_eq_true rfl)
  obtain ⟨cq10, Arq10, qq10, Sq10, Nq10, Hq10, Gq10⟩ := id f8
  obtain ⟨T11, h11, X11, e11, W11, st11⟩ := stD X7 hx hZ e7 Arq10 (j := (0 : Int32)) (inb_of Sq10 ⟨by decide, by decide⟩) (g := (mkF m 99 #[.val (.int p0), .val (.int p1), .val (.int p2), .val (.int p3), .val (.int p4), .val (.int (0 : Int32)), .val (.int (1 : Int32)), .val (.int (3 : Int32)), .val (.int mn), .val (.int mx), .val (.double (9218868437227405312 : UInt64)), .second, .val (.double (18442240474082181120 : UInt64)), .second, .val (.ref b3), .val (.ref b4), .unset, .unset, .unset] [(.double (FP.i2d mx)), (.int (0 : Int32)), (.ref b4)])) rfl rfl (hb hby at_99)
  have f12 := f9.other W11 ne_b3_b4
  have K11 : Keep h0 h11 [] := K7.wr W11 (Or.inr sz_b4)
  have Zs11 := Nat.le_trans Zs7 (Keep.of_wr W11).1
  have N11 := Fr.snoc X11 N7 g_b4
  have f13 : Arv Z h11 b4 k4 .double (2 : Int32) [(.double (FP.i2d mx)), (.double (0 : UInt64))] (.double (0 : UInt64)) := Arv.set Arq10 qq10 Sq10 Nq10 Hq10 Gq10 rfl W11 0 rfl (Nat.le_of_ble_eq_true rfl)
  obtain ⟨cq14, Arq14, qq14, Sq14, Nq14, Hq14, Gq14⟩ := id f12
  obtain ⟨T15, h15, X15, e15, W15, st15⟩ := stD X11 hx hZ e11 Arq14 (j := (1 : Int32)) (inb_of Sq14 ⟨by decide, by decide⟩) (g := (mkF m 107 #[.val (.int p0), .val (.int p1), .val (.int p2), .val (.int p3), .val (.int p4), .val (.int (0 : Int32)), .val (.int (1 : Int32)), .val (.int (3 : Int32)), .val (.int mn), .val (.int mx), .val (.double (9218868437227405312 : UInt64)), .second, .val (.double (18442240474082181120 : UInt64)), .second, .val (.ref b3), .val (.ref b4), .unset, .unset, .unset] [(.double (FP.i2d p4)), (.int (1 : Int32)), (.ref b3)])) rfl rfl (hb hby at_107)
  have f16 := f13.other W15 (Ne.symm ne_b3_b4)
  have K15 : Keep h0 h15 [] := K11.wr W15 (Or.inr sz_b3)
  have Zs15 := Nat.le_trans Zs11 (Keep.of_wr W15).1
  have N15 := Fr.snoc X15 N11 g_b3
  have f17 : Arv Z h15 b3 k3 .double (2 : Int32) [(.double (18442240474082181120 : UInt64)), (.double (FP.i2d p4))] (.double (0 : UInt64)) := Arv.set Arq14 qq14 Sq14 Nq14 Hq14 Gq14 rfl W15 1 rfl (Nat.le_of_ble_eq_true rfl)
  have jn18 : ∀ target, Steps p.tables e below (T15.setTop (mkF m 128 #[.val (.int p0), .val (.int p1), .val (.int p2), .val (.int p3), .val (.int p4), .val (.int (0 : Int32)), .val (.int (1 : Int32)), .val (.int (3 : Int32)), .val (.int mn), .val (.int mx), .val (.double (9218868437227405312 : UInt64)), .second, .val (.double (18442240474082181120 : UInt64)), .second, .val (.ref b3), .val (.ref b4), .unset, .unset, .unset] [(.double ub), (.int (1 : Int32)), (.ref b4)])) target → Steps p.tables e below (T15.setTop (mkF m 117 #[.val (.int p0), .val (.int p1), .val (.int p2), .val (.int p3), .val (.int p4), .val (.int (0 : Int32)), .val (.int (1 : Int32)), .val (.int (3 : Int32)), .val (.int mn), .val (.int mx), .val (.double (9218868437227405312 : UInt64)), .second, .val (.double (18442240474082181120 : UInt64)), .second, .val (.ref b3), .val (.ref b4), .unset, .unset, .unset] [(.int ((p2 >>> ((2 : Int32) &&& 31)) &&& (1 : Int32))), (.int (1 : Int32)), (.ref b4)])) target := by
    intro target kt
    by_cases hq : ((p2 >>> ((2 : Int32) &&& 31)) &&& (1 : Int32)) = (0 : Int32)
    · rw [if_pos hq] at hj_ub; subst hj_ub
      show Steps p.tables e below (T15.setTop (mkF m 117 #[.val (.int p0), .val (.int p1), .val (.int p2), .val (.int p3), .val (.int p4), .val (.int (0 : Int32)), .val (.int (1 : Int32)), .val (.int (3 : Int32)), .val (.int mn), .val (.int mx), .val (.double (9218868437227405312 : UInt64)), .second, .val (.double (18442240474082181120 : UInt64)), .second, .val (.ref b3), .val (.ref b4), .unset, .unset, .unset] [(.int ((p2 >>> ((2 : Int32) &&& 31)) &&& (1 : Int32))), (.int (1 : Int32)), (.ref b4)])) _
      refine XS.ifYes X15.here hx rfl (pc0 := 117) (pc' := 125) rfl (hb hby at_117) rfl ((if0 _ _).trans (teq hq).1) (by decide) (by decide) ?_
      show Steps p.tables e below (T15.setTop (mkF m 125 #[.val (.int p0), .val (.int p1), .val (.int p2), .val (.int p3), .val (.int p4), .val (.int (0 : Int32)), .val (.int (1 : Int32)), .val (.int (3 : Int32)), .val (.int mn), .val (.int mx), .val (.double (9218868437227405312 : UInt64)), .second, .val (.double (18442240474082181120 : UInt64)), .second, .val (.ref b3), .val (.ref b4), .unset, .unset, .unset] [(.int (1 : Int32)), (.ref b4)])) _
      refine XS.iload X15.here hx rfl (hb hby at_125) rfl ?_
      show Steps p.tables e below (T15.setTop (mkF m 127 #[.val (.int p0), .val (.int p1), .val (.int p2), .val (.int p3), .val (.int p4), .val (.int (0 : Int32)), .val (.int (1 : Int32)), .val (.int (3 : Int32)), .val (.int mn), .val (.int mx), .val (.double (9218868437227405312 : UInt64)), .second, .val (.double (18442240474082181120 : UInt64)), .second, .val (.ref b3), .val (.ref b4), .unset, .unset, .unset] [(.int p4), (.int (1 : Int32)), (.ref b4)])) _
      refine XS.i2dS X15.here hx rfl (hb hby at_127) rfl (v := (FP.i2d p4)) rfl ?_
      show Steps p.tables e below (T15.setTop (mkF m 128 #[.val (.int p0), .val (.int p1), .val (.int p2), .val (.int p3), .val (.int p4), .val (.int (0 : Int32)), .val (.int (1 : Int32)), .val (.int (3 : Int32)), .val (.int mn), .val (.int mx), .val (.double (9218868437227405312 : UInt64)), .second, .val (.double (18442240474082181120 : UInt64)), .second, .val (.ref b3), .val (.ref b4), .unset, .unset, .unset] [(.double (FP.i2d p4)), (.int (1 : Int32)), (.ref b4)])) _
      exact kt
    · rw [if_neg hq] at hj_ub; subst hj_ub
      show Steps p.tables e below (T15.setTop (mkF m 117 #[.val (.int p0), .val (.int p1), .val (.int p2), .val (.int p3), .val (.int p4), .val (.int (0 : Int32)), .val (.int (1 : Int32)), .val (.int (3 : Int32)), .val (.int mn), .val (.int mx), .val (.double (9218868437227405312 : UInt64)), .second, .val (.double (18442240474082181120 : UInt64)), .second, .val (.ref b3), .val (.ref b4), .unset, .unset, .unset] [(.int ((p2 >>> ((2 : Int32) &&& 31)) &&& (1 : Int32))), (.int (1 : Int32)), (.ref b4)])) _
      refine XS.ifNo X15.here hx rfl (hb hby at_117) rfl ((if0 _ _).trans (feq hq).1) ?_
      show Steps p.tables e below (T15.setTop (mkF m 120 #[.val (.int p0), .val (.int p1), .val (.int p2), .val (.int p3), .val (.int p4), .val (.int (0 : Int32)), .val (.int (1 : Int32)), .val (.int (3 : Int32)), .val (.int mn), .val (.int mx), .val (.double (9218868437227405312 : UInt64)), .second, .val (.double (18442240474082181120 : UInt64)), .second, .val (.ref b3), .val (.ref b4), .unset, .unset, .unset] [(.int (1 : Int32)), (.ref b4)])) _
      refine XS.dload X15.here hx rfl (hb hby at_120) rfl ?_
      show Steps p.tables e below (T15.setTop (mkF m 122 #[.val (.int p0), .val (.int p1), .val (.int p2), .val (.int p3), .val (.int p4), .val (.int (0 : Int32)), .val (.int (1 : Int32)), .val (.int (3 : Int32)), .val (.int mn), .val (.int mx), .val (.double (9218868437227405312 : UInt64)), .second, .val (.double (18442240474082181120 : UInt64)), .second, .val (.ref b3), .val (.ref b4), .unset, .unset, .unset] [(.double (9218868437227405312 : UInt64)), (.int (1 : Int32)), (.ref b4)])) _
      refine XS.goto X15.here hx rfl (pc0 := 122) (pc' := 128) rfl (hb hby at_122) (by decide) (by decide) ?_
      show Steps p.tables e below (T15.setTop (mkF m 128 #[.val (.int p0), .val (.int p1), .val (.int p2), .val (.int p3), .val (.int p4), .val (.int (0 : Int32)), .val (.int (1 : Int32)), .val (.int (3 : Int32)), .val (.int mn), .val (.int mx), .val (.double (9218868437227405312 : UInt64)), .second, .val (.double (18442240474082181120 : UInt64)), .second, .val (.ref b3), .val (.ref b4), .unset, .unset, .unset] [(.double (9218868437227405312 : UInt64)), (.int (1 : Int32)), (.ref b4)])) _
      exact kt
  obtain ⟨cq19, Arq19, qq19, Sq19, Nq19, Hq19, Gq19⟩ := id f16
  obtain ⟨T20, h20, X20, e20, W20, st20⟩ := stD X15 hx hZ e15 Arq19 (j := (1 : Int32)) (inb_of Sq19 ⟨by decide, by decide⟩) (g := (mkF m 128 #[.val (.int p0), .val (.int p1), .val (.int p2), .val (.int p3), .val (.int p4), .val (.int (0 : Int32)), .val (.int (1 : Int32)), .val (.int (3 : Int32)), .val (.int mn), .val (.int mx), .val (.double (9218868437227405312 : UInt64)), .second, .val (.double (18442240474082181120 : UInt64)), .second, .val (.ref b3), .val (.ref b4), .unset, .unset, .unset] [(.double ub), (.int (1 : Int32)), (.ref b4)])) rfl rfl (hb hby at_128)
  have f21 := f17.other W20 ne_b3_b4
  have K20 : Keep h0 h20 [] := K15.wr W20 (Or.inr sz_b4)
  have Zs20 := Nat.le_trans Zs15 (Keep.of_wr W20).1
  have N20 := Fr.snoc X20 N15 g_b4
  have f22 : Arv Z h20 b4 k4 .double (2 : Int32) [(.double (FP.i2d mx)), (.double ub)] (.double (0 : UInt64)) := Arv.set Arq19 qq19 Sq19 Nq19 Hq19 Gq19 rfl W20 1 rfl (Nat.le_of_ble_eq_true rfl)
  obtain ⟨T23, h23, X23, e23, E23, A23, D23, -, st23⟩ := newO X20 hx hZ hown (hw _ (List.mem_of_getElem? (i := 10) rfl)) (hw _ (List.mem_of_getElem? (i := 11) rfl)) (hw _ (List.mem_of_getElem? (i := 12) rfl)) e20 (g := (mkF m 129 #[.val (.int p0), .val (.int p1), .val (.int p2), .val (.int p3), .val (.int p4), .val (.int (0 : Int32)), .val (.int (1 : Int32)), .val (.int (3 : Int32)), .val (.int mn), .val (.int mx), .val (.double (9218868437227405312 : UInt64)), .second, .val (.double (18442240474082181120 : UInt64)), .second, .val (.ref b3), .val (.ref b4), .unset, .unset, .unset] [])) rfl (hb hby at_129) (by decide) (by decide)
  obtain ⟨b23, g23⟩ : ∃ z, z = h20.size := ⟨_, rfl⟩
  rw [← g23] at A23 D23 st23
  have ne_b3_b23 : b3 ≠ b23 := Nat.ne_of_lt (Nat.lt_of_lt_of_le f21.lt (Nat.le_of_eq g23.symm))
  have ne_b4_b23 : b4 ≠ b23 := Nat.ne_of_lt (Nat.lt_of_lt_of_le f22.lt (Nat.le_of_eq g23.symm))
  have g_b23 : n0 ≤ b23 := Nat.le_trans Zs20 (Nat.le_of_eq g23.symm)
  have sz_b23 : h0.size ≤ b23 := Nat.le_trans K20.1 (Nat.le_of_eq g23.symm)
  have f24 := f21.ext E23
  have f25 := f22.ext E23
  have K23 : Keep h0 h23 [] := K20.ext E23
  have Zs23 := Nat.le_trans Zs20 E23.1
  have F23_lower : Fld Z h23 b23 "com/example/hedge/hedge/ValueBounds" "lower" "[D" .null := D23 (Or.inr (hw _ (List.mem_of_getElem? (i := 27) rfl))) (ty := (.array .double)) (by decide)
  have F23_upper : Fld Z h23 b23 "com/example/hedge/hedge/ValueBounds" "upper" "[D" .null := D23 (Or.inr (hw _ (List.mem_of_getElem? (i := 29) rfl))) (ty := (.array .double)) (by decide)
  have F23_strategy : Fld Z h23 b23 "com/example/hedge/hedge/ValueBounds" "strategy" "[[I" .null := D23 (Or.inr (hw _ (List.mem_of_getElem? (i := 31) rfl))) (ty := (.array (.array .int))) (by decide)
  obtain ⟨T26, h26, k26, X26, e26, E26, A26, B26, st26⟩ := newPE X23 hx hZ (hw _ (List.mem_of_getElem? (i := 13) rfl)) e23 (g := (mkF m 138 #[.val (.int p0), .val (.int p1), .val (.int p2), .val (.int p3), .val (.int p4), .val (.int (0 : Int32)), .val (.int (1 : Int32)), .val (.int (3 : Int32)), .val (.int mn), .val (.int mx), .val (.double (9218868437227405312 : UInt64)), .second, .val (.double (18442240474082181120 : UInt64)), .second, .val (.ref b3), .val (.ref b4), .unset, .unset, .unset] [(.int (2 : Int32)), (.ref b4), (.ref b3), (.ref b23), (.ref b23)])) rfl (hb hby at_138) rfl (by decide) (cap := 2) (by decide) (by decide) (by decide) (by decide) (ad := "[I") rfl
  obtain ⟨b26, g26⟩ : ∃ z, z = h23.size := ⟨_, rfl⟩
  rw [← g26] at A26 st26 B26
  have ne_b3_b26 : b3 ≠ b26 := Nat.ne_of_lt (Nat.lt_of_lt_of_le f24.lt (Nat.le_of_eq g26.symm))
  have ne_b4_b26 : b4 ≠ b26 := Nat.ne_of_lt (Nat.lt_of_lt_of_le f25.lt (Nat.le_of_eq g26.symm))
  have ne_b23_b26 : b23 ≠ b26 := Nat.ne_of_lt (Nat.lt_of_lt_of_le A23.lt (Nat.le_of_eq g26.symm))
  have g_b26 : n0 ≤ b26 := Nat.le_trans Zs23 (Nat.le_of_eq g26.symm)
  have sz_b26 : h0.size ≤ b26 := Nat.le_trans K23.1 (Nat.le_of_eq g26.symm)
  have f27 := f24.ext E26
  have f28 := f25.ext E26
  have f29 := A23.ext E26
  have f30 := F23_lower.ext E26
  have f31 := F23_upper.ext E26
  have f32 := F23_strategy.ext E26
  have K26 : Keep h0 h26 [] := K23.ext E26
  have Zs26 := Nat.le_trans Zs23 E26.1
  have V26 : Arv Z h26 b26 k26 .int (2 : Int32) [(.int (0 : Int32)), (.int (0 : Int32))] (.int (0 : Int32)) := (Arv.new A26 (by decide)).pad (pad_rep [] (.int (0 : Int32)) 2)
  obtain ⟨cq33, Arq33, qq33, Sq33, Nq33, Hq33, Gq33⟩ := id V26
  obtain ⟨T34, h34, X34, e34, W34, st34⟩ := stI X26 hx hZ e26 Arq33 (j := (0 : Int32)) (inb_of Sq33 ⟨by decide, by decide⟩) (g := (mkF m 143 #[.val (.int p0), .val (.int p1), .val (.int p2), .val (.int p3), .val (.int p4), .val (.int (0 : Int32)), .val (.int (1 : Int32)), .val (.int (3 : Int32)), .val (.int mn), .val (.int mx), .val (.double (9218868437227405312 : UInt64)), .second, .val (.double (18442240474082181120 : UInt64)), .second, .val (.ref b3), .val (.ref b4), .unset, .unset, .unset] [(.int (-1 : Int32)), (.int (0 : Int32)), (.ref b26), (.ref b26), (.ref b4), (.ref b3), (.ref b23), (.ref b23)])) rfl rfl (hb hby at_143)
  have f35 := f27.other W34 ne_b3_b26
  have f36 := f28.other W34 ne_b4_b26
  have f37 := f29.wr W34
  have f38 := f30.other W34 (Or.inl ne_b23_b26)
  have f39 := f31.other W34 (Or.inl ne_b23_b26)
  have f40 := f32.other W34 (Or.inl ne_b23_b26)
  have f41 := B26.wr W34
  have K34 : Keep h0 h34 [] := K26.wr W34 (Or.inr sz_b26)
  have Zs34 := Nat.le_trans Zs26 (Keep.of_wr W34).1
  have N34 := Fr.snoc X34 N20 g_b26
  have f42 : Arv Z h34 b26 k26 .int (2 : Int32) [(.int (-1 : Int32)), (.int (0 : Int32))] (.int (0 : Int32)) := Arv.set Arq33 qq33 Sq33 Nq33 Hq33 Gq33 rfl W34 0 rfl (Nat.le_of_ble_eq_true rfl)
  obtain ⟨cq43, Arq43, qq43, Sq43, Nq43, Hq43, Gq43⟩ := id f42
  obtain ⟨T44, h44, X44, e44, W44, st44⟩ := stI X34 hx hZ e34 Arq43 (j := (1 : Int32)) (inb_of Sq43 ⟨by decide, by decide⟩) (g := (mkF m 147 #[.val (.int p0), .val (.int p1), .val (.int p2), .val (.int p3), .val (.int p4), .val (.int (0 : Int32)), .val (.int (1 : Int32)), .val (.int (3 : Int32)), .val (.int mn), .val (.int mx), .val (.double (9218868437227405312 : UInt64)), .second, .val (.double (18442240474082181120 : UInt64)), .second, .val (.ref b3), .val (.ref b4), .unset, .unset, .unset] [(.int (-1 : Int32)), (.int (1 : Int32)), (.ref b26), (.ref b26), (.ref b4), (.ref b3), (.ref b23), (.ref b23)])) rfl rfl (hb hby at_147)
  have f45 := f35.other W44 ne_b3_b26
  have f46 := f36.other W44 ne_b4_b26
  have f47 := f37.wr W44
  have f48 := f38.other W44 (Or.inl ne_b23_b26)
  have f49 := f39.other W44 (Or.inl ne_b23_b26)
  have f50 := f40.other W44 (Or.inl ne_b23_b26)
  have f51 := f41.wr W44
  have K44 : Keep h0 h44 [] := K34.wr W44 (Or.inr sz_b26)
  have Zs44 := Nat.le_trans Zs34 (Keep.of_wr W44).1
  have N44 := Fr.snoc X44 N34 g_b26
  have f52 : Arv Z h44 b26 k26 .int (2 : Int32) [(.int (-1 : Int32)), (.int (-1 : Int32))] (.int (0 : Int32)) := Arv.set Arq43 qq43 Sq43 Nq43 Hq43 Gq43 rfl W44 1 rfl (Nat.le_of_ble_eq_true rfl)
  obtain ⟨_, _, ⟨T53, L53, k53, n53⟩, -, X53, ⟨Lc53, hQ53, l53, y53, z53⟩, st53⟩ := X44.specialBack hx (y := (⟨"com/example/hedge/hedge/ValueBounds", "<init>", "([D[D[I)V"⟩ : MethodName)) rfl hown (mvT hZ (hw _ (List.mem_of_getElem? (i := 14) rfl))) (mvT hZ (hw _ (List.mem_of_getElem? (i := 15) rfl))) (mvT hZ (hw _ (List.mem_of_getElem? (i := 16) rfl))) (by decide) (backOf (W := 1) (rm3 l Z a0 hw [] b23 b3 b4 b26 h44 n0 Zs44 f47 g_b23 f48 f49 f50 f51) hZ (hw _ (List.mem_of_getElem? (i := 16) rfl)) (hw _ (List.mem_of_getElem? (i := 12) rfl)) (by decide) (by decide)) (g := (mkF m 148 #[.val (.int p0), .val (.int p1), .val (.int p2), .val (.int p3), .val (.int p4), .val (.int (0 : Int32)), .val (.int (1 : Int32)), .val (.int (3 : Int32)), .val (.int mn), .val (.int mx), .val (.double (9218868437227405312 : UInt64)), .second, .val (.double (18442240474082181120 : UInt64)), .second, .val (.ref b3), .val (.ref b4), .unset, .unset, .unset] [(.ref b26), (.ref b4), (.ref b3), (.ref b23), (.ref b23)])) rfl (by rw [hml]; rfl) (Steps.refl _) (a := b23) (argsL := [(.ref b3), (.ref b4), (.ref b26)]) (rest := [(.ref b23)]) (lenOf pd_2 rfl) rfl (by show 2 * 0 + _ ≤ _; exact Nat.le_of_eq rfl) (hb hby at_148) (fun _ _ => ⟨rfl, e44, (by decide : 4 + 1 ≤ _), (by decide : 9 + 1 ≤ _)⟩)
  dsimp only [Pt.U, Pt.locs, Pt.cells, Pt.slots] at X53 l53 y53 z53 st53 hQ53
  subst l53 y53 z53
  obtain ⟨rfl, N53q, K53q, f54, f55, f56⟩ := hQ53
  have N53 := Fr.app N44 N53q
  have f57 := f45.keep K53q (own_niS ne_b3_b23 own_ni0)
  have f58 := f46.keep K53q (own_niS ne_b4_b23 own_ni0)
  have f59 := f47.keep K53q
  have f60 := f52.keep K53q (own_niS (Ne.symm ne_b23_b26) own_ni0)
  have f61 := f51.keep K53q
  have K53 : Keep h0 T53.heap [] := K44.trans K53q (own_allS (Or.inr sz_b23) own_all0)
  have Zs53 := Nat.le_trans Zs44 K53q.1
  obtain ⟨cq62, kq62, q62a, q62b, q62c⟩ := isOf hZ rfl f54
  obtain ⟨_, _, ⟨T62, L62, k62, n62⟩, -, X62, ⟨Lc62, hQ62, l62, y62, z62⟩, st62⟩ := X53.virtualBack hx (y := (⟨"com/example/hedge/hedge/ValueBounds", "value", "(I)D"⟩ : MethodName)) (z := (⟨"com/example/hedge/hedge/ValueBounds", "value", "(I)D"⟩ : MethodName)) hown (mvT hZ (hw _ (List.mem_of_getElem? (i := 32) rfl))) (mvT hZ (hw _ (List.mem_of_getElem? (i := 33) rfl))) (notFace_of_selects (args := #[]) (mvT hZ (hw _ (List.mem_of_getElem? (i := 35) rfl)))) (mvT hZ (hw _ (List.mem_of_getElem? (i := 35) rfl))) (mvT hZ (hw _ (List.mem_of_getElem? (i := 34) rfl))) (by decide) (backOf (W := 0) (rm6_0f l Z a0 hw [] b23 b3 b4 k3 k4 (18442240474082181120 : UInt64) (FP.i2d p4) (FP.i2d mx) ub T53.heap n0 Zs53 f55 f56 f57 f58 hd9_157 nn32_157 nn36_157) hZ (hw _ (List.mem_of_getElem? (i := 36) rfl)) (hw _ (List.mem_of_getElem? (i := 12) rfl)) (by decide) (by decide)) q62a q62c (g := (mkF m 157 #[.val (.int p0), .val (.int p1), .val (.int p2), .val (.int p3), .val (.int p4), .val (.int (0 : Int32)), .val (.int (1 : Int32)), .val (.int (3 : Int32)), .val (.int mn), .val (.int mx), .val (.double (9218868437227405312 : UInt64)), .second, .val (.double (18442240474082181120 : UInt64)), .second, .val (.ref b3), .val (.ref b4), .val (.ref b23), .unset, .unset] [(.int (0 : Int32)), (.ref b23)])) rfl (by rw [hml]; rfl) (Steps.refl _) (argsL := [(.int (0 : Int32))]) (rest := []) (lenOf pd_3 rfl) rfl (by show 2 * 0 + _ ≤ _; exact Nat.le_of_eq rfl) (hb hby at_157) (fun _ _ => ⟨rfl, rfl, (by decide : 5 + 0 ≤ _), (by decide : 10 + 0 ≤ _)⟩)
  dsimp only [Pt.U, Pt.locs, Pt.cells, Pt.slots] at X62 l62 y62 z62 st62 hQ62
  subst l62 y62 z62
  obtain ⟨rfl, N62q, eh62⟩ := hQ62
  have N62 := Fr.app N53 N62q
  have e62 : T62.heap = T53.heap := eh62
  obtain ⟨fs, hr, hrun, hended, hW, hsame⟩ := X62.leave (v := some (.int (1 : Int32))) (fun h => by rw [Bd.returns] at h; cases h)
  refine ⟨_, _, pre0 _ ?_, hrun, hended, _, _, rfl, ?_, ⟨_, rfl⟩, hW, hsame.mono (by decide) (by decide)⟩
  · show Steps p.tables e below (s₁.setTop (mkF m 0 #[.val (.int p0), .val (.int p1), .val (.int p2), .val (.int p3), .val (.int p4), .unset, .unset, .unset, .unset, .unset, .unset, .unset, .unset, .unset, .unset, .unset, .unset, .unset, .unset] [])) _
    refine XS.iloadN X0.here hx rfl (hb hby at_0) rfl ?_
    show Steps p.tables e below (s₁.setTop (mkF m 1 #[.val (.int p0), .val (.int p1), .val (.int p2), .val (.int p3), .val (.int p4), .unset, .unset, .unset, .unset, .unset, .unset, .unset, .unset, .unset, .unset, .unset, .unset, .unset, .unset] [(.int p3)])) _
    refine XS.iconst X0.here hx rfl (hb hby at_1) ?_
    show Steps p.tables e below (s₁.setTop (mkF m 2 #[.val (.int p0), .val (.int p1), .val (.int p2), .val (.int p3), .val (.int p4), .unset, .unset, .unset, .unset, .unset, .unset, .unset, .unset, .unset, .unset, .unset, .unset, .unset, .unset] [(.int (1 : Int32)), (.int p3)])) _
    refine XS.iand X0.here hx rfl (hb hby at_2) rfl ?_
    show Steps p.tables e below (s₁.setTop (mkF m 3 #[.val (.int p0), .val (.int p1), .val (.int p2), .val (.int p3), .val (.int p4), .unset, .unset, .unset, .unset, .unset, .unset, .unset, .unset, .unset, .unset, .unset, .unset, .unset, .unset] [(.int (p3 &&& (1 : Int32)))])) _
    rw [hv2]
    show Steps p.tables e below (s₁.setTop (mkF m 3 #[.val (.int p0), .val (.int p1), .val (.int p2), .val (.int p3), .val (.int p4), .unset, .unset, .unset, .unset, .unset, .unset, .unset, .unset, .unset, .unset, .unset, .unset, .unset, .unset] [(.int (0 : Int32))])) _
    refine XS.istore X0.here hx rfl (hb hby at_3) rfl (l' := #[.val (.int p0), .val (.int p1), .val (.int p2), .val (.int p3), .val (.int p4), .val (.int (0 : Int32)), .unset, .unset, .unset, .unset, .unset, .unset, .unset, .unset, .unset, .unset, .unset, .unset, .unset]) rfl ?_
    show Steps p.tables e below (s₁.setTop (mkF m 5 #[.val (.int p0), .val (.int p1), .val (.int p2), .val (.int p3), .val (.int p4), .val (.int (0 : Int32)), .unset, .unset, .unset, .unset, .unset, .unset, .unset, .unset, .unset, .unset, .unset, .unset, .unset] [])) _
    refine XS.iconst X0.here hx rfl (hb hby at_5) ?_
    show Steps p.tables e below (s₁.setTop (mkF m 6 #[.val (.int p0), .val (.int p1), .val (.int p2), .val (.int p3), .val (.int p4), .val (.int (0 : Int32)), .unset, .unset, .unset, .unset, .unset, .unset, .unset, .unset, .unset, .unset, .unset, .unset, .unset] [(.int (1 : Int32))])) _
    refine XS.iload X0.here hx rfl (hb hby at_6) rfl ?_
    show Steps p.tables e below (s₁.setTop (mkF m 8 #[.val (.int p0), .val (.int p1), .val (.int p2), .val (.int p3), .val (.int p4), .val (.int (0 : Int32)), .unset, .unset, .unset, .unset, .unset, .unset, .unset, .unset, .unset, .unset, .unset, .unset, .unset] [(.int (0 : Int32)), (.int (1 : Int32))])) _
    refine XS.isub X0.here hx rfl (hb hby at_8) rfl ?_
    show Steps p.tables e below (s₁.setTop (mkF m 9 #[.val (.int p0), .val (.int p1), .val (.int p2), .val (.int p3), .val (.int p4), .val (.int (0 : Int32)), .unset, .unset, .unset, .unset, .unset, .unset, .unset, .unset, .unset, .unset, .unset, .unset, .unset] [(.int ((1 : Int32) - (0 : Int32)))])) _
    rw [show ((1 : Int32) - (0 : Int32)) = (1 : Int32) by decide]
    show Steps p.tables e below (s₁.setTop (mkF m 9 #[.val (.int p0), .val (.int p1), .val (.int p2), .val (.int p3), .val (.int p4), .val (.int (0 : Int32)), .unset, .unset, .unset, .unset, .unset, .unset, .unset, .unset, .unset, .unset, .unset, .unset, .unset] [(.int (1 : Int32))])) _
    refine XS.istore X0.here hx rfl (hb hby at_9) rfl (l' := #[.val (.int p0), .val (.int p1), .val (.int p2), .val (.int p3), .val (.int p4), .val (.int (0 : Int32)), .val (.int (1 : Int32)), .unset, .unset, .unset, .unset, .unset, .unset, .unset, .unset, .unset, .unset, .unset, .unset]) rfl ?_
    show Steps p.tables e below (s₁.setTop (mkF m 11 #[.val (.int p0), .val (.int p1), .val (.int p2), .val (.int p3), .val (.int p4), .val (.int (0 : Int32)), .val (.int (1 : Int32)), .unset, .unset, .unset, .unset, .unset, .unset, .unset, .unset, .unset, .unset, .unset, .unset] [])) _
    refine XS.iloadN X0.here hx rfl (hb hby at_11) rfl ?_
    show Steps p.tables e below (s₁.setTop (mkF m 12 #[.val (.int p0), .val (.int p1), .val (.int p2), .val (.int p3), .val (.int p4), .val (.int (0 : Int32)), .val (.int (1 : Int32)), .unset, .unset, .unset, .unset, .unset, .unset, .unset, .unset, .unset, .unset, .unset, .unset] [(.int p2)])) _
    refine XS.iconst X0.here hx rfl (hb hby at_12) ?_
    show Steps p.tables e below (s₁.setTop (mkF m 13 #[.val (.int p0), .val (.int p1), .val (.int p2), .val (.int p3), .val (.int p4), .val (.int (0 : Int32)), .val (.int (1 : Int32)), .unset, .unset, .unset, .unset, .unset, .unset, .unset, .unset, .unset, .unset, .unset, .unset] [(.int (3 : Int32)), (.int p2)])) _
    refine XS.iand X0.here hx rfl (hb hby at_13) rfl ?_
    show Steps p.tables e below (s₁.setTop (mkF m 14 #[.val (.int p0), .val (.int p1), .val (.int p2), .val (.int p3), .val (.int p4), .val (.int (0 : Int32)), .val (.int (1 : Int32)), .unset, .unset, .unset, .unset, .unset, .unset, .unset, .unset, .unset, .unset, .unset, .unset] [(.int (p2 &&& (3 : Int32)))])) _
    rw [hv13]
    show Steps p.tables e below (s₁.setTop (mkF m 14 #[.val (.int p0), .val (.int p1), .val (.int p2), .val (.int p3), .val (.int p4), .val (.int (0 : Int32)), .val (.int (1 : Int32)), .unset, .unset, .unset, .unset, .unset, .unset, .unset, .unset, .unset, .unset, .unset, .unset] [(.int (3 : Int32))])) _
    refine XS.istore X0.here hx rfl (hb hby at_14) rfl (l' := #[.val (.int p0), .val (.int p1), .val (.int p2), .val (.int p3), .val (.int p4), .val (.int (0 : Int32)), .val (.int (1 : Int32)), .val (.int (3 : Int32)), .unset, .unset, .unset, .unset, .unset, .unset, .unset, .unset, .unset, .unset, .unset]) rfl ?_
    show Steps p.tables e below (s₁.setTop (mkF m 16 #[.val (.int p0), .val (.int p1), .val (.int p2), .val (.int p3), .val (.int p4), .val (.int (0 : Int32)), .val (.int (1 : Int32)), .val (.int (3 : Int32)), .unset, .unset, .unset, .unset, .unset, .unset, .unset, .unset, .unset, .unset, .unset] [])) _
    refine XS.iloadN X0.here hx rfl (hb hby at_16) rfl ?_
    show Steps p.tables e below (s₁.setTop (mkF m 17 #[.val (.int p0), .val (.int p1), .val (.int p2), .val (.int p3), .val (.int p4), .val (.int (0 : Int32)), .val (.int (1 : Int32)), .val (.int (3 : Int32)), .unset, .unset, .unset, .unset, .unset, .unset, .unset, .unset, .unset, .unset, .unset] [(.int p0)])) _
    refine XS.iloadN X0.here hx rfl (hb hby at_17) rfl ?_
    show Steps p.tables e below (s₁.setTop (mkF m 18 #[.val (.int p0), .val (.int p1), .val (.int p2), .val (.int p3), .val (.int p4), .val (.int (0 : Int32)), .val (.int (1 : Int32)), .val (.int (3 : Int32)), .unset, .unset, .unset, .unset, .unset, .unset, .unset, .unset, .unset, .unset, .unset] [(.int p1), (.int p0)])) _
    refine st1 _ ?_
    show Steps p.tables e below (T1.setTop (mkF m 21 #[.val (.int p0), .val (.int p1), .val (.int p2), .val (.int p3), .val (.int p4), .val (.int (0 : Int32)), .val (.int (1 : Int32)), .val (.int (3 : Int32)), .unset, .unset, .unset, .unset, .unset, .unset, .unset, .unset, .unset, .unset, .unset] [(.int mn)])) _
    refine XS.istore X1.here hx rfl (hb hby at_21) rfl (l' := #[.val (.int p0), .val (.int p1), .val (.int p2), .val (.int p3), .val (.int p4), .val (.int (0 : Int32)), .val (.int (1 : Int32)), .val (.int (3 : Int32)), .val (.int mn), .unset, .unset, .unset, .unset, .unset, .unset, .unset, .unset, .unset, .unset]) rfl ?_
    show Steps p.tables e below (T1.setTop (mkF m 23 #[.val (.int p0), .val (.int p1), .val (.int p2), .val (.int p3), .val (.int p4), .val (.int (0 : Int32)), .val (.int (1 : Int32)), .val (.int (3 : Int32)), .val (.int mn), .unset, .unset, .unset, .unset, .unset, .unset, .unset, .unset, .unset, .unset] [])) _
    refine XS.iloadN X1.here hx rfl (hb hby at_23) rfl ?_
    show Steps p.tables e below (T1.setTop (mkF m 24 #[.val (.int p0), .val (.int p1), .val (.int p2), .val (.int p3), .val (.int p4), .val (.int (0 : Int32)), .val (.int (1 : Int32)), .val (.int (3 : Int32)), .val (.int mn), .unset, .unset, .unset, .unset, .unset, .unset, .unset, .unset, .unset, .unset] [(.int p0)])) _
    refine XS.iloadN X1.here hx rfl (hb hby at_24) rfl ?_
    show Steps p.tables e below (T1.setTop (mkF m 25 #[.val (.int p0), .val (.int p1), .val (.int p2), .val (.int p3), .val (.int p4), .val (.int (0 : Int32)), .val (.int (1 : Int32)), .val (.int (3 : Int32)), .val (.int mn), .unset, .unset, .unset, .unset, .unset, .unset, .unset, .unset, .unset, .unset] [(.int p1), (.int p0)])) _
    refine st2 _ ?_
    show Steps p.tables e below (T2.setTop (mkF m 28 #[.val (.int p0), .val (.int p1), .val (.int p2), .val (.int p3), .val (.int p4), .val (.int (0 : Int32)), .val (.int (1 : Int32)), .val (.int (3 : Int32)), .val (.int mn), .unset, .unset, .unset, .unset, .unset, .unset, .unset, .unset, .unset, .unset] [(.int mx)])) _
    refine XS.istore X2.here hx rfl (hb hby at_28) rfl (l' := #[.val (.int p0), .val (.int p1), .val (.int p2), .val (.int p3), .val (.int p4), .val (.int (0 : Int32)), .val (.int (1 : Int32)), .val (.int (3 : Int32)), .val (.int mn), .val (.int mx), .unset, .unset, .unset, .unset, .unset, .unset, .unset, .unset, .unset]) rfl ?_
    show Steps p.tables e below (T2.setTop (mkF m 30 #[.val (.int p0), .val (.int p1), .val (.int p2), .val (.int p3), .val (.int p4), .val (.int (0 : Int32)), .val (.int (1 : Int32)), .val (.int (3 : Int32)), .val (.int mn), .val (.int mx), .unset, .unset, .unset, .unset, .unset, .unset, .unset, .unset, .unset] [])) _
    refine X2.ldc2DoubleC hx hown (mvT hZ (hw _ (List.mem_of_getElem? (i := 7) rfl))) (g := (mkF m 30 #[.val (.int p0), .val (.int p1), .val (.int p2), .val (.int p3), .val (.int p4), .val (.int (0 : Int32)), .val (.int (1 : Int32)), .val (.int (3 : Int32)), .val (.int mn), .val (.int mx), .unset, .unset, .unset, .unset, .unset, .unset, .unset, .unset, .unset] [])) rfl (hb hby at_30) _ ?_
    show Steps p.tables e below (T2.setTop (mkF m 33 #[.val (.int p0), .val (.int p1), .val (.int p2), .val (.int p3), .val (.int p4), .val (.int (0 : Int32)), .val (.int (1 : Int32)), .val (.int (3 : Int32)), .val (.int mn), .val (.int mx), .unset, .unset, .unset, .unset, .unset, .unset, .unset, .unset, .unset] [(.double (9218868437227405312 : UInt64))])) _
    refine XS.dstore X2.here hx rfl (hb hby at_33) rfl (l' := #[.val (.int p0), .val (.int p1), .val (.int p2), .val (.int p3), .val (.int p4), .val (.int (0 : Int32)), .val (.int (1 : Int32)), .val (.int (3 : Int32)), .val (.int mn), .val (.int mx), .val (.double (9218868437227405312 : UInt64)), .second, .unset, .unset, .unset, .unset, .unset, .unset, .unset]) rfl ?_
    show Steps p.tables e below (T2.setTop (mkF m 35 #[.val (.int p0), .val (.int p1), .val (.int p2), .val (.int p3), .val (.int p4), .val (.int (0 : Int32)), .val (.int (1 : Int32)), .val (.int (3 : Int32)), .val (.int mn), .val (.int mx), .val (.double (9218868437227405312 : UInt64)), .second, .unset, .unset, .unset, .unset, .unset, .unset, .unset] [])) _
    refine X2.ldc2DoubleC hx hown (mvT hZ (hw _ (List.mem_of_getElem? (i := 8) rfl))) (g := (mkF m 35 #[.val (.int p0), .val (.int p1), .val (.int p2), .val (.int p3), .val (.int p4), .val (.int (0 : Int32)), .val (.int (1 : Int32)), .val (.int (3 : Int32)), .val (.int mn), .val (.int mx), .val (.double (9218868437227405312 : UInt64)), .second, .unset, .unset, .unset, .unset, .unset, .unset, .unset] [])) rfl (hb hby at_35) _ ?_
    show Steps p.tables e below (T2.setTop (mkF m 38 #[.val (.int p0), .val (.int p1), .val (.int p2), .val (.int p3), .val (.int p4), .val (.int (0 : Int32)), .val (.int (1 : Int32)), .val (.int (3 : Int32)), .val (.int mn), .val (.int mx), .val (.double (9218868437227405312 : UInt64)), .second, .unset, .unset, .unset, .unset, .unset, .unset, .unset] [(.double (18442240474082181120 : UInt64))])) _
    refine XS.dstore X2.here hx rfl (hb hby at_38) rfl (l' := #[.val (.int p0), .val (.int p1), .val (.int p2), .val (.int p3), .val (.int p4), .val (.int (0 : Int32)), .val (.int (1 : Int32)), .val (.int (3 : Int32)), .val (.int mn), .val (.int mx), .val (.double (9218868437227405312 : UInt64)), .second, .val (.double (18442240474082181120 : UInt64)), .second, .unset, .unset, .unset, .unset, .unset]) rfl ?_
    show Steps p.tables e below (T2.setTop (mkF m 40 #[.val (.int p0), .val (.int p1), .val (.int p2), .val (.int p3), .val (.int p4), .val (.int (0 : Int32)), .val (.int (1 : Int32)), .val (.int (3 : Int32)), .val (.int mn), .val (.int mx), .val (.double (9218868437227405312 : UInt64)), .second, .val (.double (18442240474082181120 : UInt64)), .second, .unset, .unset, .unset, .unset, .unset] [])) _
    refine XS.iconst X2.here hx rfl (hb hby at_40) ?_
    show Steps p.tables e below (T2.setTop (mkF m 41 #[.val (.int p0), .val (.int p1), .val (.int p2), .val (.int p3), .val (.int p4), .val (.int (0 : Int32)), .val (.int (1 : Int32)), .val (.int (3 : Int32)), .val (.int mn), .val (.int mx), .val (.double (9218868437227405312 : UInt64)), .second, .val (.double (18442240474082181120 : UInt64)), .second, .unset, .unset, .unset, .unset, .unset] [(.int (2 : Int32))])) _
    refine st3 _ ?_
    show Steps p.tables e below (T3.setTop (mkF m 43 #[.val (.int p0), .val (.int p1), .val (.int p2), .val (.int p3), .val (.int p4), .val (.int (0 : Int32)), .val (.int (1 : Int32)), .val (.int (3 : Int32)), .val (.int mn), .val (.int mx), .val (.double (9218868437227405312 : UInt64)), .second, .val (.double (18442240474082181120 : UInt64)), .second, .unset, .unset, .unset, .unset, .unset] [(.ref b3)])) _
    refine XS.astore X3.here hx rfl (hb hby at_43) rfl rfl (l' := #[.val (.int p0), .val (.int p1), .val (.int p2), .val (.int p3), .val (.int p4), .val (.int (0 : Int32)), .val (.int (1 : Int32)), .val (.int (3 : Int32)), .val (.int mn), .val (.int mx), .val (.double (9218868437227405312 : UInt64)), .second, .val (.double (18442240474082181120 : UInt64)), .second, .val (.ref b3), .unset, .unset, .unset, .unset]) rfl ?_
    show Steps p.tables e below (T3.setTop (mkF m 45 #[.val (.int p0), .val (.int p1), .val (.int p2), .val (.int p3), .val (.int p4), .val (.int (0 : Int32)), .val (.int (1 : Int32)), .val (.int (3 : Int32)), .val (.int mn), .val (.int mx), .val (.double (9218868437227405312 : UInt64)), .second, .val (.double (18442240474082181120 : UInt64)), .second, .val (.ref b3), .unset, .unset, .unset, .unset] [])) _
    refine XS.iconst X3.here hx rfl (hb hby at_45) ?_
    show Steps p.tables e below (T3.setTop (mkF m 46 #[.val (.int p0), .val (.int p1), .val (.int p2), .val (.int p3), .val (.int p4), .val (.int (0 : Int32)), .val (.int (1 : Int32)), .val (.int (3 : Int32)), .val (.int mn), .val (.int mx), .val (.double (9218868437227405312 : UInt64)), .second, .val (.double (18442240474082181120 : UInt64)), .second, .val (.ref b3), .unset, .unset, .unset, .unset] [(.int (2 : Int32))])) _
    refine st4 _ ?_
    show Steps p.tables e below (T4.setTop (mkF m 48 #[.val (.int p0), .val (.int p1), .val (.int p2), .val (.int p3), .val (.int p4), .val (.int (0 : Int32)), .val (.int (1 : Int32)), .val (.int (3 : Int32)), .val (.int mn), .val (.int mx), .val (.double (9218868437227405312 : UInt64)), .second, .val (.double (18442240474082181120 : UInt64)), .second, .val (.ref b3), .unset, .unset, .unset, .unset] [(.ref b4)])) _
    refine XS.astore X4.here hx rfl (hb hby at_48) rfl rfl (l' := #[.val (.int p0), .val (.int p1), .val (.int p2), .val (.int p3), .val (.int p4), .val (.int (0 : Int32)), .val (.int (1 : Int32)), .val (.int (3 : Int32)), .val (.int mn), .val (.int mx), .val (.double (9218868437227405312 : UInt64)), .second, .val (.double (18442240474082181120 : UInt64)), .second, .val (.ref b3), .val (.ref b4), .unset, .unset, .unset]) rfl ?_
    show Steps p.tables e below (T4.setTop (mkF m 50 #[.val (.int p0), .val (.int p1), .val (.int p2), .val (.int p3), .val (.int p4), .val (.int (0 : Int32)), .val (.int (1 : Int32)), .val (.int (3 : Int32)), .val (.int mn), .val (.int mx), .val (.double (9218868437227405312 : UInt64)), .second, .val (.double (18442240474082181120 : UInt64)), .second, .val (.ref b3), .val (.ref b4), .unset, .unset, .unset] [])) _
    refine XS.aload X4.here hx rfl (hb hby at_50) rfl rfl ?_
    show Steps p.tables e below (T4.setTop (mkF m 52 #[.val (.int p0), .val (.int p1), .val (.int p2), .val (.int p3), .val (.int p4), .val (.int (0 : Int32)), .val (.int (1 : Int32)), .val (.int (3 : Int32)), .val (.int mn), .val (.int mx), .val (.double (9218868437227405312 : UInt64)), .second, .val (.double (18442240474082181120 : UInt64)), .second, .val (.ref b3), .val (.ref b4), .unset, .unset, .unset] [(.ref b3)])) _
    refine XS.iload X4.here hx rfl (hb hby at_52) rfl ?_
    show Steps p.tables e below (T4.setTop (mkF m 54 #[.val (.int p0), .val (.int p1), .val (.int p2), .val (.int p3), .val (.int p4), .val (.int (0 : Int32)), .val (.int (1 : Int32)), .val (.int (3 : Int32)), .val (.int mn), .val (.int mx), .val (.double (9218868437227405312 : UInt64)), .second, .val (.double (18442240474082181120 : UInt64)), .second, .val (.ref b3), .val (.ref b4), .unset, .unset, .unset] [(.int (0 : Int32)), (.ref b3)])) _
    refine XS.iload X4.here hx rfl (hb hby at_54) rfl ?_
    show Steps p.tables e below (T4.setTop (mkF m 56 #[.val (.int p0), .val (.int p1), .val (.int p2), .val (.int p3), .val (.int p4), .val (.int (0 : Int32)), .val (.int (1 : Int32)), .val (.int (3 : Int32)), .val (.int mn), .val (.int mx), .val (.double (9218868437227405312 : UInt64)), .second, .val (.double (18442240474082181120 : UInt64)), .second, .val (.ref b3), .val (.ref b4), .unset, .unset, .unset] [(.int (3 : Int32)), (.int (0 : Int32)), (.ref b3)])) _
    refine XS.iconst X4.here hx rfl (hb hby at_56) ?_
    show Steps p.tables e below (T4.setTop (mkF m 57 #[.val (.int p0), .val (.int p1), .val (.int p2), .val (.int p3), .val (.int p4), .val (.int (0 : Int32)), .val (.int (1 : Int32)), .val (.int (3 : Int32)), .val (.int mn), .val (.int mx), .val (.double (9218868437227405312 : UInt64)), .second, .val (.double (18442240474082181120 : UInt64)), .second, .val (.ref b3), .val (.ref b4), .unset, .unset, .unset] [(.int (2 : Int32)), (.int (3 : Int32)), (.int (0 : Int32)), (.ref b3)])) _
    refine XS.icmpNo X4.here hx rfl (hb hby at_57) rfl (feq (by decide : ¬ ((3 : Int32) = (2 : Int32)))).1 ?_
    show Steps p.tables e below (T4.setTop (mkF m 60 #[.val (.int p0), .val (.int p1), .val (.int p2), .val (.int p3), .val (.int p4), .val (.int (0 : Int32)), .val (.int (1 : Int32)), .val (.int (3 : Int32)), .val (.int mn), .val (.int mx), .val (.double (9218868437227405312 : UInt64)), .second, .val (.double (18442240474082181120 : UInt64)), .second, .val (.ref b3), .val (.ref b4), .unset, .unset, .unset] [(.int (0 : Int32)), (.ref b3)])) _
    refine XS.iload X4.here hx rfl (hb hby at_60) rfl ?_
    show Steps p.tables e below (T4.setTop (mkF m 62 #[.val (.int p0), .val (.int p1), .val (.int p2), .val (.int p3), .val (.int p4), .val (.int (0 : Int32)), .val (.int (1 : Int32)), .val (.int (3 : Int32)), .val (.int mn), .val (.int mx), .val (.double (9218868437227405312 : UInt64)), .second, .val (.double (18442240474082181120 : UInt64)), .second, .val (.ref b3), .val (.ref b4), .unset, .unset, .unset] [(.int (3 : Int32)), (.int (0 : Int32)), (.ref b3)])) _
    refine XS.iconst X4.here hx rfl (hb hby at_62) ?_
    show Steps p.tables e below (T4.setTop (mkF m 63 #[.val (.int p0), .val (.int p1), .val (.int p2), .val (.int p3), .val (.int p4), .val (.int (0 : Int32)), .val (.int (1 : Int32)), .val (.int (3 : Int32)), .val (.int mn), .val (.int mx), .val (.double (9218868437227405312 : UInt64)), .second, .val (.double (18442240474082181120 : UInt64)), .second, .val (.ref b3), .val (.ref b4), .unset, .unset, .unset] [(.int (3 : Int32)), (.int (3 : Int32)), (.int (0 : Int32)), (.ref b3)])) _
    refine XS.icmpNo X4.here hx rfl (hb hby at_63) rfl (teq (by decide : (3 : Int32) = (3 : Int32))).2 ?_
    show Steps p.tables e below (T4.setTop (mkF m 66 #[.val (.int p0), .val (.int p1), .val (.int p2), .val (.int p3), .val (.int p4), .val (.int (0 : Int32)), .val (.int (1 : Int32)), .val (.int (3 : Int32)), .val (.int mn), .val (.int mx), .val (.double (9218868437227405312 : UInt64)), .second, .val (.double (18442240474082181120 : UInt64)), .second, .val (.ref b3), .val (.ref b4), .unset, .unset, .unset] [(.int (0 : Int32)), (.ref b3)])) _
    refine XS.dload X4.here hx rfl (hb hby at_66) rfl ?_
    show Steps p.tables e below (T4.setTop (mkF m 68 #[.val (.int p0), .val (.int p1), .val (.int p2), .val (.int p3), .val (.int p4), .val (.int (0 : Int32)), .val (.int (1 : Int32)), .val (.int (3 : Int32)), .val (.int mn), .val (.int mx), .val (.double (9218868437227405312 : UInt64)), .second, .val (.double (18442240474082181120 : UInt64)), .second, .val (.ref b3), .val (.ref b4), .unset, .unset, .unset] [(.double (18442240474082181120 : UInt64)), (.int (0 : Int32)), (.ref b3)])) _
    refine XS.goto X4.here hx rfl (pc0 := 68) (pc' := 74) rfl (hb hby at_68) (by decide) (by decide) ?_
    show Steps p.tables e below (T4.setTop (mkF m 74 #[.val (.int p0), .val (.int p1), .val (.int p2), .val (.int p3), .val (.int p4), .val (.int (0 : Int32)), .val (.int (1 : Int32)), .val (.int (3 : Int32)), .val (.int mn), .val (.int mx), .val (.double (9218868437227405312 : UInt64)), .second, .val (.double (18442240474082181120 : UInt64)), .second, .val (.ref b3), .val (.ref b4), .unset, .unset, .unset] [(.double (18442240474082181120 : UInt64)), (.int (0 : Int32)), (.ref b3)])) _
    refine st7 _ ?_
    show Steps p.tables e below (T7.setTop (mkF m 75 #[.val (.int p0), .val (.int p1), .val (.int p2), .val (.int p3), .val (.int p4), .val (.int (0 : Int32)), .val (.int (1 : Int32)), .val (.int (3 : Int32)), .val (.int mn), .val (.int mx), .val (.double (9218868437227405312 : UInt64)), .second, .val (.double (18442240474082181120 : UInt64)), .second, .val (.ref b3), .val (.ref b4), .unset, .unset, .unset] [])) _
    refine XS.aload X7.here hx rfl (hb hby at_75) rfl rfl ?_
    show Steps p.tables e below (T7.setTop (mkF m 77 #[.val (.int p0), .val (.int p1), .val (.int p2), .val (.int p3), .val (.int p4), .val (.int (0 : Int32)), .val (.int (1 : Int32)), .val (.int (3 : Int32)), .val (.int mn), .val (.int mx), .val (.double (9218868437227405312 : UInt64)), .second, .val (.double (18442240474082181120 : UInt64)), .second, .val (.ref b3), .val (.ref b4), .unset, .unset, .unset] [(.ref b4)])) _
    refine XS.iload X7.here hx rfl (hb hby at_77) rfl ?_
    show Steps p.tables e below (T7.setTop (mkF m 79 #[.val (.int p0), .val (.int p1), .val (.int p2), .val (.int p3), .val (.int p4), .val (.int (0 : Int32)), .val (.int (1 : Int32)), .val (.int (3 : Int32)), .val (.int mn), .val (.int mx), .val (.double (9218868437227405312 : UInt64)), .second, .val (.double (18442240474082181120 : UInt64)), .second, .val (.ref b3), .val (.ref b4), .unset, .unset, .unset] [(.int (0 : Int32)), (.ref b4)])) _
    refine XS.iload X7.here hx rfl (hb hby at_79) rfl ?_
    show Steps p.tables e below (T7.setTop (mkF m 81 #[.val (.int p0), .val (.int p1), .val (.int p2), .val (.int p3), .val (.int p4), .val (.int (0 : Int32)), .val (.int (1 : Int32)), .val (.int (3 : Int32)), .val (.int mn), .val (.int mx), .val (.double (9218868437227405312 : UInt64)), .second, .val (.double (18442240474082181120 : UInt64)), .second, .val (.ref b3), .val (.ref b4), .unset, .unset, .unset] [(.int (3 : Int32)), (.int (0 : Int32)), (.ref b4)])) _
    refine XS.iconst X7.here hx rfl (hb hby at_81) ?_
    show Steps p.tables e below (T7.setTop (mkF m 82 #[.val (.int p0), .val (.int p1), .val (.int p2), .val (.int p3), .val (.int p4), .val (.int (0 : Int32)), .val (.int (1 : Int32)), .val (.int (3 : Int32)), .val (.int mn), .val (.int mx), .val (.double (9218868437227405312 : UInt64)), .second, .val (.double (18442240474082181120 : UInt64)), .second, .val (.ref b3), .val (.ref b4), .unset, .unset, .unset] [(.int (1 : Int32)), (.int (3 : Int32)), (.int (0 : Int32)), (.ref b4)])) _
    refine XS.icmpNo X7.here hx rfl (hb hby at_82) rfl (feq (by decide : ¬ ((3 : Int32) = (1 : Int32)))).1 ?_
    show Steps p.tables e below (T7.setTop (mkF m 85 #[.val (.int p0), .val (.int p1), .val (.int p2), .val (.int p3), .val (.int p4), .val (.int (0 : Int32)), .val (.int (1 : Int32)), .val (.int (3 : Int32)), .val (.int mn), .val (.int mx), .val (.double (9218868437227405312 : UInt64)), .second, .val (.double (18442240474082181120 : UInt64)), .second, .val (.ref b3), .val (.ref b4), .unset, .unset, .unset] [(.int (0 : Int32)), (.ref b4)])) _
    refine XS.iload X7.here hx rfl (hb hby at_85) rfl ?_
    show Steps p.tables e below (T7.setTop (mkF m 87 #[.val (.int p0), .val (.int p1), .val (.int p2), .val (.int p3), .val (.int p4), .val (.int (0 : Int32)), .val (.int (1 : Int32)), .val (.int (3 : Int32)), .val (.int mn), .val (.int mx), .val (.double (9218868437227405312 : UInt64)), .second, .val (.double (18442240474082181120 : UInt64)), .second, .val (.ref b3), .val (.ref b4), .unset, .unset, .unset] [(.int (3 : Int32)), (.int (0 : Int32)), (.ref b4)])) _
    refine XS.iconst X7.here hx rfl (hb hby at_87) ?_
    show Steps p.tables e below (T7.setTop (mkF m 88 #[.val (.int p0), .val (.int p1), .val (.int p2), .val (.int p3), .val (.int p4), .val (.int (0 : Int32)), .val (.int (1 : Int32)), .val (.int (3 : Int32)), .val (.int mn), .val (.int mx), .val (.double (9218868437227405312 : UInt64)), .second, .val (.double (18442240474082181120 : UInt64)), .second, .val (.ref b3), .val (.ref b4), .unset, .unset, .unset] [(.int (2 : Int32)), (.int (3 : Int32)), (.int (0 : Int32)), (.ref b4)])) _
    refine XS.icmpYes X7.here hx rfl (pc0 := 88) (pc' := 96) rfl (hb hby at_88) rfl (feq (by decide : ¬ ((3 : Int32) = (2 : Int32)))).2 (by decide) (by decide) ?_
    show Steps p.tables e below (T7.setTop (mkF m 96 #[.val (.int p0), .val (.int p1), .val (.int p2), .val (.int p3), .val (.int p4), .val (.int (0 : Int32)), .val (.int (1 : Int32)), .val (.int (3 : Int32)), .val (.int mn), .val (.int mx), .val (.double (9218868437227405312 : UInt64)), .second, .val (.double (18442240474082181120 : UInt64)), .second, .val (.ref b3), .val (.ref b4), .unset, .unset, .unset] [(.int (0 : Int32)), (.ref b4)])) _
    refine XS.iload X7.here hx rfl (hb hby at_96) rfl ?_
    show Steps p.tables e below (T7.setTop (mkF m 98 #[.val (.int p0), .val (.int p1), .val (.int p2), .val (.int p3), .val (.int p4), .val (.int (0 : Int32)), .val (.int (1 : Int32)), .val (.int (3 : Int32)), .val (.int mn), .val (.int mx), .val (.double (9218868437227405312 : UInt64)), .second, .val (.double (18442240474082181120 : UInt64)), .second, .val (.ref b3), .val (.ref b4), .unset, .unset, .unset] [(.int mx), (.int (0 : Int32)), (.ref b4)])) _
    refine XS.i2dS X7.here hx rfl (hb hby at_98) rfl (v := (FP.i2d mx)) rfl ?_
    show Steps p.tables e below (T7.setTop (mkF m 99 #[.val (.int p0), .val (.int p1), .val (.int p2), .val (.int p3), .val (.int p4), .val (.int (0 : Int32)), .val (.int (1 : Int32)), .val (.int (3 : Int32)), .val (.int mn), .val (.int mx), .val (.double (9218868437227405312 : UInt64)), .second, .val (.double (18442240474082181120 : UInt64)), .second, .val (.ref b3), .val (.ref b4), .unset, .unset, .unset] [(.double (FP.i2d mx)), (.int (0 : Int32)), (.ref b4)])) _
    refine st11 _ ?_
    show Steps p.tables e below (T11.setTop (mkF m 100 #[.val (.int p0), .val (.int p1), .val (.int p2), .val (.int p3), .val (.int p4), .val (.int (0 : Int32)), .val (.int (1 : Int32)), .val (.int (3 : Int32)), .val (.int mn), .val (.int mx), .val (.double (9218868437227405312 : UInt64)), .second, .val (.double (18442240474082181120 : UInt64)), .second, .val (.ref b3), .val (.ref b4), .unset, .unset, .unset] [])) _
    refine XS.aload X11.here hx rfl (hb hby at_100) rfl rfl ?_
    show Steps p.tables e below (T11.setTop (mkF m 102 #[.val (.int p0), .val (.int p1), .val (.int p2), .val (.int p3), .val (.int p4), .val (.int (0 : Int32)), .val (.int (1 : Int32)), .val (.int (3 : Int32)), .val (.int mn), .val (.int mx), .val (.double (9218868437227405312 : UInt64)), .second, .val (.double (18442240474082181120 : UInt64)), .second, .val (.ref b3), .val (.ref b4), .unset, .unset, .unset] [(.ref b3)])) _
    refine XS.iload X11.here hx rfl (hb hby at_102) rfl ?_
    show Steps p.tables e below (T11.setTop (mkF m 104 #[.val (.int p0), .val (.int p1), .val (.int p2), .val (.int p3), .val (.int p4), .val (.int (0 : Int32)), .val (.int (1 : Int32)), .val (.int (3 : Int32)), .val (.int mn), .val (.int mx), .val (.double (9218868437227405312 : UInt64)), .second, .val (.double (18442240474082181120 : UInt64)), .second, .val (.ref b3), .val (.ref b4), .unset, .unset, .unset] [(.int (1 : Int32)), (.ref b3)])) _
    refine XS.iload X11.here hx rfl (hb hby at_104) rfl ?_
    show Steps p.tables e below (T11.setTop (mkF m 106 #[.val (.int p0), .val (.int p1), .val (.int p2), .val (.int p3), .val (.int p4), .val (.int (0 : Int32)), .val (.int (1 : Int32)), .val (.int (3 : Int32)), .val (.int mn), .val (.int mx), .val (.double (9218868437227405312 : UInt64)), .second, .val (.double (18442240474082181120 : UInt64)), .second, .val (.ref b3), .val (.ref b4), .unset, .unset, .unset] [(.int p4), (.int (1 : Int32)), (.ref b3)])) _
    refine XS.i2dS X11.here hx rfl (hb hby at_106) rfl (v := (FP.i2d p4)) rfl ?_
    show Steps p.tables e below (T11.setTop (mkF m 107 #[.val (.int p0), .val (.int p1), .val (.int p2), .val (.int p3), .val (.int p4), .val (.int (0 : Int32)), .val (.int (1 : Int32)), .val (.int (3 : Int32)), .val (.int mn), .val (.int mx), .val (.double (9218868437227405312 : UInt64)), .second, .val (.double (18442240474082181120 : UInt64)), .second, .val (.ref b3), .val (.ref b4), .unset, .unset, .unset] [(.double (FP.i2d p4)), (.int (1 : Int32)), (.ref b3)])) _
    refine st15 _ ?_
    show Steps p.tables e below (T15.setTop (mkF m 108 #[.val (.int p0), .val (.int p1), .val (.int p2), .val (.int p3), .val (.int p4), .val (.int (0 : Int32)), .val (.int (1 : Int32)), .val (.int (3 : Int32)), .val (.int mn), .val (.int mx), .val (.double (9218868437227405312 : UInt64)), .second, .val (.double (18442240474082181120 : UInt64)), .second, .val (.ref b3), .val (.ref b4), .unset, .unset, .unset] [])) _
    refine XS.aload X15.here hx rfl (hb hby at_108) rfl rfl ?_
    show Steps p.tables e below (T15.setTop (mkF m 110 #[.val (.int p0), .val (.int p1), .val (.int p2), .val (.int p3), .val (.int p4), .val (.int (0 : Int32)), .val (.int (1 : Int32)), .val (.int (3 : Int32)), .val (.int mn), .val (.int mx), .val (.double (9218868437227405312 : UInt64)), .second, .val (.double (18442240474082181120 : UInt64)), .second, .val (.ref b3), .val (.ref b4), .unset, .unset, .unset] [(.ref b4)])) _
    refine XS.iload X15.here hx rfl (hb hby at_110) rfl ?_
    show Steps p.tables e below (T15.setTop (mkF m 112 #[.val (.int p0), .val (.int p1), .val (.int p2), .val (.int p3), .val (.int p4), .val (.int (0 : Int32)), .val (.int (1 : Int32)), .val (.int (3 : Int32)), .val (.int mn), .val (.int mx), .val (.double (9218868437227405312 : UInt64)), .second, .val (.double (18442240474082181120 : UInt64)), .second, .val (.ref b3), .val (.ref b4), .unset, .unset, .unset] [(.int (1 : Int32)), (.ref b4)])) _
    refine XS.iloadN X15.here hx rfl (hb hby at_112) rfl ?_
    show Steps p.tables e below (T15.setTop (mkF m 113 #[.val (.int p0), .val (.int p1), .val (.int p2), .val (.int p3), .val (.int p4), .val (.int (0 : Int32)), .val (.int (1 : Int32)), .val (.int (3 : Int32)), .val (.int mn), .val (.int mx), .val (.double (9218868437227405312 : UInt64)), .second, .val (.double (18442240474082181120 : UInt64)), .second, .val (.ref b3), .val (.ref b4), .unset, .unset, .unset] [(.int p2), (.int (1 : Int32)), (.ref b4)])) _
    refine XS.iconst X15.here hx rfl (hb hby at_113) ?_
    show Steps p.tables e below (T15.setTop (mkF m 114 #[.val (.int p0), .val (.int p1), .val (.int p2), .val (.int p3), .val (.int p4), .val (.int (0 : Int32)), .val (.int (1 : Int32)), .val (.int (3 : Int32)), .val (.int mn), .val (.int mx), .val (.double (9218868437227405312 : UInt64)), .second, .val (.double (18442240474082181120 : UInt64)), .second, .val (.ref b3), .val (.ref b4), .unset, .unset, .unset] [(.int (2 : Int32)), (.int p2), (.int (1 : Int32)), (.ref b4)])) _
    refine XS.ishr X15.here hx rfl (hb hby at_114) rfl ?_
    show Steps p.tables e below (T15.setTop (mkF m 115 #[.val (.int p0), .val (.int p1), .val (.int p2), .val (.int p3), .val (.int p4), .val (.int (0 : Int32)), .val (.int (1 : Int32)), .val (.int (3 : Int32)), .val (.int mn), .val (.int mx), .val (.double (9218868437227405312 : UInt64)), .second, .val (.double (18442240474082181120 : UInt64)), .second, .val (.ref b3), .val (.ref b4), .unset, .unset, .unset] [(.int (p2 >>> ((2 : Int32) &&& 31))), (.int (1 : Int32)), (.ref b4)])) _
    refine XS.iconst X15.here hx rfl (hb hby at_115) ?_
    show Steps p.tables e below (T15.setTop (mkF m 116 #[.val (.int p0), .val (.int p1), .val (.int p2), .val (.int p3), .val (.int p4), .val (.int (0 : Int32)), .val (.int (1 : Int32)), .val (.int (3 : Int32)), .val (.int mn), .val (.int mx), .val (.double (9218868437227405312 : UInt64)), .second, .val (.double (18442240474082181120 : UInt64)), .second, .val (.ref b3), .val (.ref b4), .unset, .unset, .unset] [(.int (1 : Int32)), (.int (p2 >>> ((2 : Int32) &&& 31))), (.int (1 : Int32)), (.ref b4)])) _
    refine XS.iand X15.here hx rfl (hb hby at_116) rfl ?_
    show Steps p.tables e below (T15.setTop (mkF m 117 #[.val (.int p0), .val (.int p1), .val (.int p2), .val (.int p3), .val (.int p4), .val (.int (0 : Int32)), .val (.int (1 : Int32)), .val (.int (3 : Int32)), .val (.int mn), .val (.int mx), .val (.double (9218868437227405312 : UInt64)), .second, .val (.double (18442240474082181120 : UInt64)), .second, .val (.ref b3), .val (.ref b4), .unset, .unset, .unset] [(.int ((p2 >>> ((2 : Int32) &&& 31)) &&& (1 : Int32))), (.int (1 : Int32)), (.ref b4)])) _
    refine jn18 _ ?_
    show Steps p.tables e below (T15.setTop (mkF m 128 #[.val (.int p0), .val (.int p1), .val (.int p2), .val (.int p3), .val (.int p4), .val (.int (0 : Int32)), .val (.int (1 : Int32)), .val (.int (3 : Int32)), .val (.int mn), .val (.int mx), .val (.double (9218868437227405312 : UInt64)), .second, .val (.double (18442240474082181120 : UInt64)), .second, .val (.ref b3), .val (.ref b4), .unset, .unset, .unset] [(.double ub), (.int (1 : Int32)), (.ref b4)])) _
    refine st20 _ ?_
    show Steps p.tables e below (T20.setTop (mkF m 129 #[.val (.int p0), .val (.int p1), .val (.int p2), .val (.int p3), .val (.int p4), .val (.int (0 : Int32)), .val (.int (1 : Int32)), .val (.int (3 : Int32)), .val (.int mn), .val (.int mx), .val (.double (9218868437227405312 : UInt64)), .second, .val (.double (18442240474082181120 : UInt64)), .second, .val (.ref b3), .val (.ref b4), .unset, .unset, .unset] [])) _
    refine st23 _ ?_
    show Steps p.tables e below (T23.setTop (mkF m 132 #[.val (.int p0), .val (.int p1), .val (.int p2), .val (.int p3), .val (.int p4), .val (.int (0 : Int32)), .val (.int (1 : Int32)), .val (.int (3 : Int32)), .val (.int mn), .val (.int mx), .val (.double (9218868437227405312 : UInt64)), .second, .val (.double (18442240474082181120 : UInt64)), .second, .val (.ref b3), .val (.ref b4), .unset, .unset, .unset] [(.ref b23)])) _
    refine XS.dup X23.here hx rfl (hb hby at_132) rfl rfl ?_
    show Steps p.tables e below (T23.setTop (mkF m 133 #[.val (.int p0), .val (.int p1), .val (.int p2), .val (.int p3), .val (.int p4), .val (.int (0 : Int32)), .val (.int (1 : Int32)), .val (.int (3 : Int32)), .val (.int mn), .val (.int mx), .val (.double (9218868437227405312 : UInt64)), .second, .val (.double (18442240474082181120 : UInt64)), .second, .val (.ref b3), .val (.ref b4), .unset, .unset, .unset] [(.ref b23), (.ref b23)])) _
    refine XS.aload X23.here hx rfl (hb hby at_133) rfl rfl ?_
    show Steps p.tables e below (T23.setTop (mkF m 135 #[.val (.int p0), .val (.int p1), .val (.int p2), .val (.int p3), .val (.int p4), .val (.int (0 : Int32)), .val (.int (1 : Int32)), .val (.int (3 : Int32)), .val (.int mn), .val (.int mx), .val (.double (9218868437227405312 : UInt64)), .second, .val (.double (18442240474082181120 : UInt64)), .second, .val (.ref b3), .val (.ref b4), .unset, .unset, .unset] [(.ref b3), (.ref b23), (.ref b23)])) _
    refine XS.aload X23.here hx rfl (hb hby at_135) rfl rfl ?_
    show Steps p.tables e below (T23.setTop (mkF m 137 #[.val (.int p0), .val (.int p1), .val (.int p2), .val (.int p3), .val (.int p4), .val (.int (0 : Int32)), .val (.int (1 : Int32)), .val (.int (3 : Int32)), .val (.int mn), .val (.int mx), .val (.double (9218868437227405312 : UInt64)), .second, .val (.double (18442240474082181120 : UInt64)), .second, .val (.ref b3), .val (.ref b4), .unset, .unset, .unset] [(.ref b4), (.ref b3), (.ref b23), (.ref b23)])) _
    refine XS.iconst X23.here hx rfl (hb hby at_137) ?_
    show Steps p.tables e below (T23.setTop (mkF m 138 #[.val (.int p0), .val (.int p1), .val (.int p2), .val (.int p3), .val (.int p4), .val (.int (0 : Int32)), .val (.int (1 : Int32)), .val (.int (3 : Int32)), .val (.int mn), .val (.int mx), .val (.double (9218868437227405312 : UInt64)), .second, .val (.double (18442240474082181120 : UInt64)), .second, .val (.ref b3), .val (.ref b4), .unset, .unset, .unset] [(.int (2 : Int32)), (.ref b4), (.ref b3), (.ref b23), (.ref b23)])) _
    refine st26 _ ?_
    show Steps p.tables e below (T26.setTop (mkF m 140 #[.val (.int p0), .val (.int p1), .val (.int p2), .val (.int p3), .val (.int p4), .val (.int (0 : Int32)), .val (.int (1 : Int32)), .val (.int (3 : Int32)), .val (.int mn), .val (.int mx), .val (.double (9218868437227405312 : UInt64)), .second, .val (.double (18442240474082181120 : UInt64)), .second, .val (.ref b3), .val (.ref b4), .unset, .unset, .unset] [(.ref b26), (.ref b4), (.ref b3), (.ref b23), (.ref b23)])) _
    refine XS.dup X26.here hx rfl (hb hby at_140) rfl rfl ?_
    show Steps p.tables e below (T26.setTop (mkF m 141 #[.val (.int p0), .val (.int p1), .val (.int p2), .val (.int p3), .val (.int p4), .val (.int (0 : Int32)), .val (.int (1 : Int32)), .val (.int (3 : Int32)), .val (.int mn), .val (.int mx), .val (.double (9218868437227405312 : UInt64)), .second, .val (.double (18442240474082181120 : UInt64)), .second, .val (.ref b3), .val (.ref b4), .unset, .unset, .unset] [(.ref b26), (.ref b26), (.ref b4), (.ref b3), (.ref b23), (.ref b23)])) _
    refine XS.iconst X26.here hx rfl (hb hby at_141) ?_
    show Steps p.tables e below (T26.setTop (mkF m 142 #[.val (.int p0), .val (.int p1), .val (.int p2), .val (.int p3), .val (.int p4), .val (.int (0 : Int32)), .val (.int (1 : Int32)), .val (.int (3 : Int32)), .val (.int mn), .val (.int mx), .val (.double (9218868437227405312 : UInt64)), .second, .val (.double (18442240474082181120 : UInt64)), .second, .val (.ref b3), .val (.ref b4), .unset, .unset, .unset] [(.int (0 : Int32)), (.ref b26), (.ref b26), (.ref b4), (.ref b3), (.ref b23), (.ref b23)])) _
    refine XS.iconst X26.here hx rfl (hb hby at_142) ?_
    show Steps p.tables e below (T26.setTop (mkF m 143 #[.val (.int p0), .val (.int p1), .val (.int p2), .val (.int p3), .val (.int p4), .val (.int (0 : Int32)), .val (.int (1 : Int32)), .val (.int (3 : Int32)), .val (.int mn), .val (.int mx), .val (.double (9218868437227405312 : UInt64)), .second, .val (.double (18442240474082181120 : UInt64)), .second, .val (.ref b3), .val (.ref b4), .unset, .unset, .unset] [(.int (-1 : Int32)), (.int (0 : Int32)), (.ref b26), (.ref b26), (.ref b4), (.ref b3), (.ref b23), (.ref b23)])) _
    refine st34 _ ?_
    show Steps p.tables e below (T34.setTop (mkF m 144 #[.val (.int p0), .val (.int p1), .val (.int p2), .val (.int p3), .val (.int p4), .val (.int (0 : Int32)), .val (.int (1 : Int32)), .val (.int (3 : Int32)), .val (.int mn), .val (.int mx), .val (.double (9218868437227405312 : UInt64)), .second, .val (.double (18442240474082181120 : UInt64)), .second, .val (.ref b3), .val (.ref b4), .unset, .unset, .unset] [(.ref b26), (.ref b4), (.ref b3), (.ref b23), (.ref b23)])) _
    refine XS.dup X34.here hx rfl (hb hby at_144) rfl rfl ?_
    show Steps p.tables e below (T34.setTop (mkF m 145 #[.val (.int p0), .val (.int p1), .val (.int p2), .val (.int p3), .val (.int p4), .val (.int (0 : Int32)), .val (.int (1 : Int32)), .val (.int (3 : Int32)), .val (.int mn), .val (.int mx), .val (.double (9218868437227405312 : UInt64)), .second, .val (.double (18442240474082181120 : UInt64)), .second, .val (.ref b3), .val (.ref b4), .unset, .unset, .unset] [(.ref b26), (.ref b26), (.ref b4), (.ref b3), (.ref b23), (.ref b23)])) _
    refine XS.iconst X34.here hx rfl (hb hby at_145) ?_
    show Steps p.tables e below (T34.setTop (mkF m 146 #[.val (.int p0), .val (.int p1), .val (.int p2), .val (.int p3), .val (.int p4), .val (.int (0 : Int32)), .val (.int (1 : Int32)), .val (.int (3 : Int32)), .val (.int mn), .val (.int mx), .val (.double (9218868437227405312 : UInt64)), .second, .val (.double (18442240474082181120 : UInt64)), .second, .val (.ref b3), .val (.ref b4), .unset, .unset, .unset] [(.int (1 : Int32)), (.ref b26), (.ref b26), (.ref b4), (.ref b3), (.ref b23), (.ref b23)])) _
    refine XS.iconst X34.here hx rfl (hb hby at_146) ?_
    show Steps p.tables e below (T34.setTop (mkF m 147 #[.val (.int p0), .val (.int p1), .val (.int p2), .val (.int p3), .val (.int p4), .val (.int (0 : Int32)), .val (.int (1 : Int32)), .val (.int (3 : Int32)), .val (.int mn), .val (.int mx), .val (.double (9218868437227405312 : UInt64)), .second, .val (.double (18442240474082181120 : UInt64)), .second, .val (.ref b3), .val (.ref b4), .unset, .unset, .unset] [(.int (-1 : Int32)), (.int (1 : Int32)), (.ref b26), (.ref b26), (.ref b4), (.ref b3), (.ref b23), (.ref b23)])) _
    refine st44 _ ?_
    show Steps p.tables e below (T44.setTop (mkF m 148 #[.val (.int p0), .val (.int p1), .val (.int p2), .val (.int p3), .val (.int p4), .val (.int (0 : Int32)), .val (.int (1 : Int32)), .val (.int (3 : Int32)), .val (.int mn), .val (.int mx), .val (.double (9218868437227405312 : UInt64)), .second, .val (.double (18442240474082181120 : UInt64)), .second, .val (.ref b3), .val (.ref b4), .unset, .unset, .unset] [(.ref b26), (.ref b4), (.ref b3), (.ref b23), (.ref b23)])) _
    refine st53.trans ?_
    show Steps p.tables e below (T53.setTop (mkF m 151 #[.val (.int p0), .val (.int p1), .val (.int p2), .val (.int p3), .val (.int p4), .val (.int (0 : Int32)), .val (.int (1 : Int32)), .val (.int (3 : Int32)), .val (.int mn), .val (.int mx), .val (.double (9218868437227405312 : UInt64)), .second, .val (.double (18442240474082181120 : UInt64)), .second, .val (.ref b3), .val (.ref b4), .unset, .unset, .unset] [(.ref b23)])) _
    refine XS.astore X53.here hx rfl (hb hby at_151) rfl rfl (l' := #[.val (.int p0), .val (.int p1), .val (.int p2), .val (.int p3), .val (.int p4), .val (.int (0 : Int32)), .val (.int (1 : Int32)), .val (.int (3 : Int32)), .val (.int mn), .val (.int mx), .val (.double (9218868437227405312 : UInt64)), .second, .val (.double (18442240474082181120 : UInt64)), .second, .val (.ref b3), .val (.ref b4), .val (.ref b23), .unset, .unset]) rfl ?_
    show Steps p.tables e below (T53.setTop (mkF m 153 #[.val (.int p0), .val (.int p1), .val (.int p2), .val (.int p3), .val (.int p4), .val (.int (0 : Int32)), .val (.int (1 : Int32)), .val (.int (3 : Int32)), .val (.int mn), .val (.int mx), .val (.double (9218868437227405312 : UInt64)), .second, .val (.double (18442240474082181120 : UInt64)), .second, .val (.ref b3), .val (.ref b4), .val (.ref b23), .unset, .unset] [])) _
    refine XS.aload X53.here hx rfl (hb hby at_153) rfl rfl ?_
    show Steps p.tables e below (T53.setTop (mkF m 155 #[.val (.int p0), .val (.int p1), .val (.int p2), .val (.int p3), .val (.int p4), .val (.int (0 : Int32)), .val (.int (1 : Int32)), .val (.int (3 : Int32)), .val (.int mn), .val (.int mx), .val (.double (9218868437227405312 : UInt64)), .second, .val (.double (18442240474082181120 : UInt64)), .second, .val (.ref b3), .val (.ref b4), .val (.ref b23), .unset, .unset] [(.ref b23)])) _
    refine XS.iload X53.here hx rfl (hb hby at_155) rfl ?_
    show Steps p.tables e below (T53.setTop (mkF m 157 #[.val (.int p0), .val (.int p1), .val (.int p2), .val (.int p3), .val (.int p4), .val (.int (0 : Int32)), .val (.int (1 : Int32)), .val (.int (3 : Int32)), .val (.int mn), .val (.int mx), .val (.double (9218868437227405312 : UInt64)), .second, .val (.double (18442240474082181120 : UInt64)), .second, .val (.ref b3), .val (.ref b4), .val (.ref b23), .unset, .unset] [(.int (0 : Int32)), (.ref b23)])) _
    refine st62.trans ?_
    show Steps p.tables e below (T62.setTop (mkF m 160 #[.val (.int p0), .val (.int p1), .val (.int p2), .val (.int p3), .val (.int p4), .val (.int (0 : Int32)), .val (.int (1 : Int32)), .val (.int (3 : Int32)), .val (.int mn), .val (.int mx), .val (.double (9218868437227405312 : UInt64)), .second, .val (.double (18442240474082181120 : UInt64)), .second, .val (.ref b3), .val (.ref b4), .val (.ref b23), .unset, .unset] [(.double (FP.ddiv (FP.dadd (18442240474082181120 : UInt64) (FP.i2d mx)) (4611686018427387904 : UInt64)))])) _
    refine XS.dstore X62.here hx rfl (hb hby at_160) rfl (l' := #[.val (.int p0), .val (.int p1), .val (.int p2), .val (.int p3), .val (.int p4), .val (.int (0 : Int32)), .val (.int (1 : Int32)), .val (.int (3 : Int32)), .val (.int mn), .val (.int mx), .val (.double (9218868437227405312 : UInt64)), .second, .val (.double (18442240474082181120 : UInt64)), .second, .val (.ref b3), .val (.ref b4), .val (.ref b23), .val (.double (FP.ddiv (FP.dadd (18442240474082181120 : UInt64) (FP.i2d mx)) (4611686018427387904 : UInt64))), .second]) rfl ?_
    show Steps p.tables e below (T62.setTop (mkF m 162 #[.val (.int p0), .val (.int p1), .val (.int p2), .val (.int p3), .val (.int p4), .val (.int (0 : Int32)), .val (.int (1 : Int32)), .val (.int (3 : Int32)), .val (.int mn), .val (.int mx), .val (.double (9218868437227405312 : UInt64)), .second, .val (.double (18442240474082181120 : UInt64)), .second, .val (.ref b3), .val (.ref b4), .val (.ref b23), .val (.double (FP.ddiv (FP.dadd (18442240474082181120 : UInt64) (FP.i2d mx)) (4611686018427387904 : UInt64))), .second] [])) _
    refine XS.iload X62.here hx rfl (hb hby at_162) rfl ?_
    show Steps p.tables e below (T62.setTop (mkF m 164 #[.val (.int p0), .val (.int p1), .val (.int p2), .val (.int p3), .val (.int p4), .val (.int (0 : Int32)), .val (.int (1 : Int32)), .val (.int (3 : Int32)), .val (.int mn), .val (.int mx), .val (.double (9218868437227405312 : UInt64)), .second, .val (.double (18442240474082181120 : UInt64)), .second, .val (.ref b3), .val (.ref b4), .val (.ref b23), .val (.double (FP.ddiv (FP.dadd (18442240474082181120 : UInt64) (FP.i2d mx)) (4611686018427387904 : UInt64))), .second] [(.int (3 : Int32))])) _
    refine XS.ifYes X62.here hx rfl (pc0 := 164) (pc' := 191) rfl (hb hby at_164) rfl ((if0 _ _).trans (feq (by decide : ¬ ((3 : Int32) = (0 : Int32)))).2) (by decide) (by decide) ?_
    show Steps p.tables e below (T62.setTop (mkF m 191 #[.val (.int p0), .val (.int p1), .val (.int p2), .val (.int p3), .val (.int p4), .val (.int (0 : Int32)), .val (.int (1 : Int32)), .val (.int (3 : Int32)), .val (.int mn), .val (.int mx), .val (.double (9218868437227405312 : UInt64)), .second, .val (.double (18442240474082181120 : UInt64)), .second, .val (.ref b3), .val (.ref b4), .val (.ref b23), .val (.double (FP.ddiv (FP.dadd (18442240474082181120 : UInt64) (FP.i2d mx)) (4611686018427387904 : UInt64))), .second] [])) _
    refine XS.iload X62.here hx rfl (hb hby at_191) rfl ?_
    show Steps p.tables e below (T62.setTop (mkF m 193 #[.val (.int p0), .val (.int p1), .val (.int p2), .val (.int p3), .val (.int p4), .val (.int (0 : Int32)), .val (.int (1 : Int32)), .val (.int (3 : Int32)), .val (.int mn), .val (.int mx), .val (.double (9218868437227405312 : UInt64)), .second, .val (.double (18442240474082181120 : UInt64)), .second, .val (.ref b3), .val (.ref b4), .val (.ref b23), .val (.double (FP.ddiv (FP.dadd (18442240474082181120 : UInt64) (FP.i2d mx)) (4611686018427387904 : UInt64))), .second] [(.int (3 : Int32))])) _
    refine XS.iconst X62.here hx rfl (hb hby at_193) ?_
    show Steps p.tables e below (T62.setTop (mkF m 194 #[.val (.int p0), .val (.int p1), .val (.int p2), .val (.int p3), .val (.int p4), .val (.int (0 : Int32)), .val (.int (1 : Int32)), .val (.int (3 : Int32)), .val (.int mn), .val (.int mx), .val (.double (9218868437227405312 : UInt64)), .second, .val (.double (18442240474082181120 : UInt64)), .second, .val (.ref b3), .val (.ref b4), .val (.ref b23), .val (.double (FP.ddiv (FP.dadd (18442240474082181120 : UInt64) (FP.i2d mx)) (4611686018427387904 : UInt64))), .second] [(.int (1 : Int32)), (.int (3 : Int32))])) _
    refine XS.icmpYes X62.here hx rfl (pc0 := 194) (pc' := 212) rfl (hb hby at_194) rfl (feq (by decide : ¬ ((3 : Int32) = (1 : Int32)))).2 (by decide) (by decide) ?_
    show Steps p.tables e below (T62.setTop (mkF m 212 #[.val (.int p0), .val (.int p1), .val (.int p2), .val (.int p3), .val (.int p4), .val (.int (0 : Int32)), .val (.int (1 : Int32)), .val (.int (3 : Int32)), .val (.int mn), .val (.int mx), .val (.double (9218868437227405312 : UInt64)), .second, .val (.double (18442240474082181120 : UInt64)), .second, .val (.ref b3), .val (.ref b4), .val (.ref b23), .val (.double (FP.ddiv (FP.dadd (18442240474082181120 : UInt64) (FP.i2d mx)) (4611686018427387904 : UInt64))), .second] [])) _
    refine XS.dload X62.here hx rfl (hb hby at_212) rfl ?_
    show Steps p.tables e below (T62.setTop (mkF m 214 #[.val (.int p0), .val (.int p1), .val (.int p2), .val (.int p3), .val (.int p4), .val (.int (0 : Int32)), .val (.int (1 : Int32)), .val (.int (3 : Int32)), .val (.int mn), .val (.int mx), .val (.double (9218868437227405312 : UInt64)), .second, .val (.double (18442240474082181120 : UInt64)), .second, .val (.ref b3), .val (.ref b4), .val (.ref b23), .val (.double (FP.ddiv (FP.dadd (18442240474082181120 : UInt64) (FP.i2d mx)) (4611686018427387904 : UInt64))), .second] [(.double (FP.ddiv (FP.dadd (18442240474082181120 : UInt64) (FP.i2d mx)) (4611686018427387904 : UInt64)))])) _
    refine XS.dload X62.here hx rfl (hb hby at_214) rfl ?_
    show Steps p.tables e below (T62.setTop (mkF m 216 #[.val (.int p0), .val (.int p1), .val (.int p2), .val (.int p3), .val (.int p4), .val (.int (0 : Int32)), .val (.int (1 : Int32)), .val (.int (3 : Int32)), .val (.int mn), .val (.int mx), .val (.double (9218868437227405312 : UInt64)), .second, .val (.double (18442240474082181120 : UInt64)), .second, .val (.ref b3), .val (.ref b4), .val (.ref b23), .val (.double (FP.ddiv (FP.dadd (18442240474082181120 : UInt64) (FP.i2d mx)) (4611686018427387904 : UInt64))), .second] [(.double (18442240474082181120 : UInt64)), (.double (FP.ddiv (FP.dadd (18442240474082181120 : UInt64) (FP.i2d mx)) (4611686018427387904 : UInt64)))])) _
    refine XS.dcmpS X62.here hx rfl (hb hby at_216) rfl (v := (0 : Int32)) hd216 ?_
    show Steps p.tables e below (T62.setTop (mkF m 217 #[.val (.int p0), .val (.int p1), .val (.int p2), .val (.int p3), .val (.int p4), .val (.int (0 : Int32)), .val (.int (1 : Int32)), .val (.int (3 : Int32)), .val (.int mn), .val (.int mx), .val (.double (9218868437227405312 : UInt64)), .second, .val (.double (18442240474082181120 : UInt64)), .second, .val (.ref b3), .val (.ref b4), .val (.ref b23), .val (.double (FP.ddiv (FP.dadd (18442240474082181120 : UInt64) (FP.i2d mx)) (4611686018427387904 : UInt64))), .second] [(.int (0 : Int32))])) _
    refine XS.ifNo X62.here hx rfl (hb hby at_217) rfl ((if0 _ _).trans (teq (by decide : (0 : Int32) = (0 : Int32))).2) ?_
    show Steps p.tables e below (T62.setTop (mkF m 220 #[.val (.int p0), .val (.int p1), .val (.int p2), .val (.int p3), .val (.int p4), .val (.int (0 : Int32)), .val (.int (1 : Int32)), .val (.int (3 : Int32)), .val (.int mn), .val (.int mx), .val (.double (9218868437227405312 : UInt64)), .second, .val (.double (18442240474082181120 : UInt64)), .second, .val (.ref b3), .val (.ref b4), .val (.ref b23), .val (.double (FP.ddiv (FP.dadd (18442240474082181120 : UInt64) (FP.i2d mx)) (4611686018427387904 : UInt64))), .second] [])) _
    refine XS.iconst X62.here hx rfl (hb hby at_220) ?_
    show Steps p.tables e below (T62.setTop (mkF m 221 #[.val (.int p0), .val (.int p1), .val (.int p2), .val (.int p3), .val (.int p4), .val (.int (0 : Int32)), .val (.int (1 : Int32)), .val (.int (3 : Int32)), .val (.int mn), .val (.int mx), .val (.double (9218868437227405312 : UInt64)), .second, .val (.double (18442240474082181120 : UInt64)), .second, .val (.ref b3), .val (.ref b4), .val (.ref b23), .val (.double (FP.ddiv (FP.dadd (18442240474082181120 : UInt64) (FP.i2d mx)) (4611686018427387904 : UInt64))), .second] [(.int (1 : Int32))])) _
    refine XS.goto X62.here hx rfl (pc0 := 221) (pc' := 225) rfl (hb hby at_221) (by decide) (by decide) ?_
    show Steps p.tables e below (T62.setTop (mkF m 225 #[.val (.int p0), .val (.int p1), .val (.int p2), .val (.int p3), .val (.int p4), .val (.int (0 : Int32)), .val (.int (1 : Int32)), .val (.int (3 : Int32)), .val (.int mn), .val (.int mx), .val (.double (9218868437227405312 : UInt64)), .second, .val (.double (18442240474082181120 : UInt64)), .second, .val (.ref b3), .val (.ref b4), .val (.ref b23), .val (.double (FP.ddiv (FP.dadd (18442240474082181120 : UInt64) (FP.i2d mx)) (4611686018427387904 : UInt64))), .second] [(.int (1 : Int32))])) _
    exact retN X62 hx (t := .boolean) Bd.returns (by simp) (hb hby at_225) hr
  · show Q0 n0 _ T62.heap _
    rw [e62]
    exact ⟨rfl, N62⟩
set_option maxRecDepth 65536 in
set_option maxHeartbeats 40000000 in
theorem rm0_31 (l : Launch) (Z : State) (a0 : Array Value) (hw : ∀ d ∈ tables_1, d.before a0 Z = true) (ws : List Jvm.Cond) (p0 : Int32) (p1 : Int32) (p2 : Int32) (p3 : Int32) (p4 : Int32) (mn : Int32) (mx : Int32) (ub : UInt64) (h0 : Heap) (n0 : Nat) (Z0 : n0 ≤ h0.size) (hv2 : (p3 &&& (1 : Int32)) = (1 : Int32)) (hv13 : (p2 &&& (3 : Int32)) = (3 : Int32)) (hr_r_18 : (if p1 < p0 then p1 else p0) = mn) (hr_r_25 : (if p0 < p1 then p1 else p0) = mx) (hj_ub : (if ((p2 >>> ((2 : Int32) &&& 31)) &&& (1 : Int32)) = (0 : Int32) then (FP.i2d p4) else (9218868437227405312 : UInt64)) = ub) (hd9_157 : (cmpValue (FP.dcmp (FP.i2d mx) (9218868437227405312 : UInt64)) .l) = (-1 : Int32)) (nn32_157 : Jvm.Free.Fl.NoNaN64 (FP.dadd (18442240474082181120 : UInt64) (FP.i2d mx))) (nn36_157 : Jvm.Free.Fl.NoNaN64 (FP.ddiv (FP.dadd (18442240474082181120 : UInt64) (FP.i2d mx)) (4611686018427387904 : UInt64))) (hd216 : (cmpValue (FP.dcmp (FP.ddiv (FP.dadd (18442240474082181120 : UInt64) (FP.i2d mx)) (4611686018427387904 : UInt64)) (18442240474082181120 : UInt64)) .l) = (0 : Int32)) :
    MetFree l x (head1 (Jvm.Cond.code x code maxLocals ret :: ws) room_1) (fun a U => a = #[(.int p0), (.int p1), (.int p2), (.int p3), (.int p4)] ∧ Z.Warmed39 U.vm ∧ U.heap = h0) (fun _ _ _ _ _ => True) (fun _ U o U' => ∃ v L, o = .returned v ∧ Q0 n0 v U'.heap L ∧ FrameEnd U o U' L room_1.cells room_1.slots) := by
  refine MetFree.of_bodySF (plainFor_of_name pn_com_example_hedge_hedge_ValueBoundsValuePinLaw) hisR ?_
  intro p e s m args below meth c s₁ Bd hml0 hP hK
  obtain ⟨rfl, hZ, hh⟩ := hP
  have hx := Bd.exec
  have hby := Bd.bytes
  have hml : c.maxLocals = 19 := hml0
  have hown : s.vm.findClass "com/example/hedge/hedge/ValueBoundsValuePinLaw" = some m.cls := findClass_of_methodNamed Bd.named
  have hnm := (name_of_methodNamed Bd.named Bd.method).1
  have X0 : Stand p l e room_1 s m #[(.int p0), (.int p1), (.int p2), (.int p3), (.int p4)] below meth c s₁ [] 0 0 := Stand.of_body Bd
  have e0 : s₁.heap = h0 := by rw [← hh, Bd.state]; rfl
  have N0 := Fr.nil n0
  have pre0 : ∀ t, Steps p.tables e below (s₁.setTop (mkF m 0 #[.val (.int p0), .val (.int p1), .val (.int p2), .val (.int p3), .val (.int p4), .unset, .unset, .unset, .unset, .unset, .unset, .unset, .unset, .unset, .unset, .unset, .unset, .unset, .unset] [])) t → Steps p.tables e below (s₁.setTop (entryFrame m #[(.int p0), (.int p1), (.int p2), (.int p3), (.int p4)] maxLocals)) t := fun t k => castTop (ef_0_IIIII m p0 p1 p2 p3 p4) k
  obtain ⟨_, _, ⟨T1, L1, k1, n1⟩, -, X1, ⟨Lc1, hQ1, l1, y1, z1⟩, st1⟩ := Jvm.LawKit.callS X0 hx (y := (⟨"java/lang/Math", "min", "(II)I"⟩ : MethodName)) hown (mvT hZ (hw _ (List.mem_of_getElem? (i := 0) rfl))) (mvT hZ (hw _ (List.mem_of_getElem? (i := 1) rfl))) (mvT hZ (hw _ (List.mem_of_getElem? (i := 2) rfl))) (mvT hZ (hw _ (List.mem_of_getElem? (i := 3) rfl))) (by decide) (backOf (W := 0) (rm1M l Z a0 hw [] p0 p1 mn h0 n0 Z0 hr_r_18) hZ (hw _ (List.mem_of_getElem? (i := 3) rfl)) (hw _ (List.mem_of_getElem? (i := 2) rfl)) (by decide) (by decide)) (g := (mkF m 18 #[.val (.int p0), .val (.int p1), .val (.int p2), .val (.int p3), .val (.int p4), .val (.int (1 : Int32)), .val (.int (0 : Int32)), .val (.int (3 : Int32)), .unset, .unset, .unset, .unset, .unset, .unset, .unset, .unset, .unset, .unset, .unset] [(.int p1), (.int p0)])) rfl (by rw [hml]; rfl) (argsL := [(.int p0), (.int p1)]) (rest := []) (lenOf pd_1 rfl) rfl (by show 2 * 0 + _ ≤ _; exact Nat.le_of_eq rfl) (hb hby at_18) (fun _ _ => ⟨rfl, e0, (by decide : 0 + 0 ≤ _), (by decide : 0 + 0 ≤ _)⟩)
  dsimp only [Pt.U, Pt.locs, Pt.cells, Pt.slots] at X1 l1 y1 z1 st1 hQ1
  subst l1 y1 z1
  obtain ⟨rfl, N1q, eh1⟩ := hQ1
  have N1 := Fr.app N0 N1q
  have e1 : T1.heap = h0 := eh1
  obtain ⟨_, _, ⟨T2, L2, k2, n2⟩, -, X2, ⟨Lc2, hQ2, l2, y2, z2⟩, st2⟩ := Jvm.LawKit.callS X1 hx (y := (⟨"java/lang/Math", "max", "(II)I"⟩ : MethodName)) hown (mvT hZ (hw _ (List.mem_of_getElem? (i := 4) rfl))) (mvT hZ (hw _ (List.mem_of_getElem? (i := 5) rfl))) (mvT hZ (hw _ (List.mem_of_getElem? (i := 2) rfl))) (mvT hZ (hw _ (List.mem_of_getElem? (i := 6) rfl))) (by decide) (backOf (W := 0) (rm2M l Z a0 hw [] p0 p1 mx h0 n0 Z0 hr_r_25) hZ (hw _ (List.mem_of_getElem? (i := 6) rfl)) (hw _ (List.mem_of_getElem? (i := 2) rfl)) (by decide) (by decide)) (g := (mkF m 25 #[.val (.int p0), .val (.int p1), .val (.int p2), .val (.int p3), .val (.int p4), .val (.int (1 : Int32)), .val (.int (0 : Int32)), .val (.int (3 : Int32)), .val (.int mn), .unset, .unset, .unset, .unset, .unset, .unset, .unset, .unset, .unset, .unset] [(.int p1), (.int p0)])) rfl (by rw [hml]; rfl) (argsL := [(.int p0), (.int p1)]) (rest := []) (lenOf pd_1 rfl) rfl (by show 2 * 0 + _ ≤ _; exact Nat.le_of_eq rfl) (hb hby at_25) (fun _ _ => ⟨rfl, e1, (by decide : 0 + 0 ≤ _), (by decide : 0 + 0 ≤ _)⟩)
  dsimp only [Pt.U, Pt.locs, Pt.cells, Pt.slots] at X2 l2 y2 z2 st2 hQ2
  subst l2 y2 z2
  obtain ⟨rfl, N2q, eh2⟩ := hQ2
  have N2 := Fr.app N1 N2q
  have e2 : T2.heap = h0 := eh2
  obtain ⟨T3, h3, k3, X3, e3, E3, A3, st3⟩ := newP X2 hx hZ (hw _ (List.mem_of_getElem? (i := 9) rfl)) e2 (g := (mkF m 41 #[.val (.int p0), .val (.int p1), .val (.int p2), .val (.int p3), .val (.int p4), .val (.int (1 : Int32)), .val (.int (0 : Int32)), .val (.int (3 : Int32)), .val (.int mn), .val (.int mx), .val (.double (9218868437227405312 : UInt64)), .second, .val (.double (18442240474082181120 : UInt64)), .second, .unset, .unset, .unset, .unset, .unset] [(.int (2 : Int32))])) rfl (hb hby at_41) rfl (by decide) (cap := 2) (by decide) (by decide) (by decide) (by decide)
  obtain ⟨b3, g3⟩ : ∃ z, z = h0.size := ⟨_, rfl⟩
  rw [← g3] at A3 st3
  have g_b3 : n0 ≤ b3 := Nat.le_trans Z0 (Nat.le_of_eq g3.symm)
  have sz_b3 : h0.size ≤ b3 := Nat.le_trans (Keep.refl h0 []).1 (Nat.le_of_eq g3.symm)
  have K3 : Keep h0 h3 [] := (Keep.refl h0 []).ext E3
  have Zs3 := Nat.le_trans Z0 E3.1
  have V3 : Arv Z h3 b3 k3 .double (2 : Int32) [(.double (0 : UInt64)), (.double (0 : UInt64))] (.double (0 : UInt64)) := (Arv.new A3 (by decide)).pad (pad_rep [] (.double (0 : UInt64)) 2)
  obtain ⟨T4, h4, k4, X4, e4, E4, A4, st4⟩ := newP X3 hx hZ (hw _ (List.mem_of_getElem? (i := 9) rfl)) e3 (g := (mkF m 46 #[.val (.int p0), .val (.int p1), .val (.int p2), .val (.int p3), .val (.int p4), .val (.int (1 : Int32)), .val (.int (0 : Int32)), .val (.int (3 : Int32)), .val (.int mn), .val (.int mx), .val (.double (9218868437227405312 : UInt64)), .second, .val (.double (18442240474082181120 : UInt64)), .second, .val (.ref b3), .unset, .unset, .unset, .unset] [(.int (2 : Int32))])) rfl (hb hby at_46) rfl (by decide) (cap := 2) (by decide) (by decide) (by decide) (by decide)
  obtain ⟨b4, g4⟩ : ∃ z, z = h3.size := ⟨_, rfl⟩
  rw [← g4] at A4 st4
  have ne_b3_b4 : b3 ≠ b4 := Nat.ne_of_lt (Nat.lt_of_lt_of_le V3.lt (Nat.le_of_eq g4.symm))
  have g_b4 : n0 ≤ b4 := Nat.le_trans Zs3 (Nat.le_of_eq g4.symm)
  have sz_b4 : h0.size ≤ b4 := Nat.le_trans K3.1 (Nat.le_of_eq g4.symm)
  have f5 := V3.ext E4
  have K4 : Keep h0 h4 [] := K3.ext E4
  have Zs4 := Nat.le_trans Zs3 E4.1
  have V4 : Arv Z h4 b4 k4 .double (2 : Int32) [(.double (0 : UInt64)), (.double (0 : UInt64))] (.double (0 : UInt64)) := (Arv.new A4 (by decide)).pad (pad_rep [] (.double (0 : UInt64)) 2)
  obtain ⟨cq6, Arq6, qq6, Sq6, Nq6, Hq6, Gq6⟩ := id f5
  obtain ⟨T7, h7, X7, e7, W7, st7⟩ := stD X4 hx hZ e4 Arq6 (j := (1 : Int32)) (inb_of Sq6 ⟨by decide, by decide⟩) (g := (mkF m 74 #[.val (.int p0), .val (.int p1), .val (.int p2), .val (.int p3), .val (.int p4), .val (.int (1 : Int32)), .val (.int (0 : Int32)), .val (.int (3 : Int32)), .val (.int mn), .val (.int mx), .val (.double (9218868437227405312 : UInt64)), .second, .val (.double (18442240474082181120 : UInt64)), .second, .val (.ref b3), .val (.ref b4), .unset, .unset, .unset] [(.double (18442240474082181120 : UInt64)), (.int (1 : Int32)), (.ref b3)])) rfl rfl (hb hby at_74)
  have f8 := V4.other W7 (Ne.symm ne_b3_b4)
  have K7 : Keep h0 h7 [] := K4.wr W7 (Or.inr sz_b3)
  have Zs7 := Nat.le_trans Zs4 (Keep.of_wr W7).1
  have N7 := Fr.snoc X7 N2 g_b3
  have f9 : Arv Z h7 b3 k3 .double (2 : Int32) [(.double (0 : UInt64)), (.double (18442240474082181120 : UInt64))] (.double (0 : UInt64)) := Arv.set Arq6 qq6 Sq6 Nq6 Hq6 Gq6 rfl W7 1 rfl (Nat.le_of_ble_eq_true rfl)
  obtain ⟨cq10, Arq10, qq10, Sq10, Nq10, Hq10, Gq10⟩ := id f8
  obtain ⟨T11, h11, X11, e11, W11, st11⟩ := stD X7 hx hZ e7 Arq10 (j := (1 : Int32)) (inb_of Sq10 ⟨by decide, by decide⟩) (g := (mkF m 99 #[.val (.int p0), .val (.int p1), .val (.int p2), .val (.int p3), .val (.int p4), .val (.int (1 : Int32)), .val (.int (0 : Int32)), .val (.int (3 : Int32)), .val (.int mn), .val (.int mx), .val (.double (9218868437227405312 : UInt64)), .second, .val (.double (18442240474082181120 : UInt64)), .second, .val (.ref b3), .val (.ref b4), .unset, .unset, .unset] [(.double (FP.i2d mx)), (.int (1 : Int32)), (.ref b4)])) rfl rfl (hb hby at_99)
  have f12 := f9.other W11 ne_b3_b4
  have K11 : Keep h0 h11 [] := K7.wr W11 (Or.inr sz_b4)
  have Zs11 := Nat.le_trans Zs7 (Keep.of_wr W11).1
  have N11 := Fr.snoc X11 N7 g_b4
  have f13 : Arv Z h11 b4 k4 .double (2 : Int32) [(.double (0 : UInt64)), (.double (FP.i2d mx))] (.double (0 : UInt64)) := Arv.set Arq10 qq10 Sq10 Nq10 Hq10 Gq10 rfl W11 1 rfl (Nat.le_of_ble_eq_true rfl)
  obtain ⟨cq14, Arq14, qq14, Sq14, Nq14, Hq14, Gq14⟩ := id f12
  obtain ⟨T15, h15, X15, e15, W15, st15⟩ := stD X11 hx hZ e11 Arq14 (j := (0 : Int32)) (inb_of Sq14 ⟨by decide, by decide⟩) (g := (mkF m 107 #[.val (.int p0), .val (.int p1), .val (.int p2), .val (.int p3), .val (.int p4), .val (.int (1 : Int32)), .val (.int (0 : Int32)), .val (.int (3 : Int32)), .val (.int mn), .val (.int mx), .val (.double (9218868437227405312 : UInt64)), .second, .val (.double (18442240474082181120 : UInt64)), .second, .val (.ref b3), .val (.ref b4), .unset, .unset, .unset] [(.double (FP.i2d p4)), (.int (0 : Int32)), (.ref b3)])) rfl rfl (hb hby at_107)
  have f16 := f13.other W15 (Ne.symm ne_b3_b4)
  have K15 : Keep h0 h15 [] := K11.wr W15 (Or.inr sz_b3)
  have Zs15 := Nat.le_trans Zs11 (Keep.of_wr W15).1
  have N15 := Fr.snoc X15 N11 g_b3
  have f17 : Arv Z h15 b3 k3 .double (2 : Int32) [(.double (FP.i2d p4)), (.double (18442240474082181120 : UInt64))] (.double (0 : UInt64)) := Arv.set Arq14 qq14 Sq14 Nq14 Hq14 Gq14 rfl W15 0 rfl (Nat.le_of_ble_eq_true rfl)
  have jn18 : ∀ target, Steps p.tables e below (T15.setTop (mkF m 128 #[.val (.int p0), .val (.int p1), .val (.int p2), .val (.int p3), .val (.int p4), .val (.int (1 : Int32)), .val (.int (0 : Int32)), .val (.int (3 : Int32)), .val (.int mn), .val (.int mx), .val (.double (9218868437227405312 : UInt64)), .second, .val (.double (18442240474082181120 : UInt64)), .second, .val (.ref b3), .val (.ref b4), .unset, .unset, .unset] [(.double ub), (.int (0 : Int32)), (.ref b4)])) target → Steps p.tables e below (T15.setTop (mkF m 117 #[.val (.int p0), .val (.int p1), .val (.int p2), .val (.int p3), .val (.int p4), .val (.int (1 : Int32)), .val (.int (0 : Int32)), .val (.int (3 : Int32)), .val (.int mn), .val (.int mx), .val (.double (9218868437227405312 : UInt64)), .second, .val (.double (18442240474082181120 : UInt64)), .second, .val (.ref b3), .val (.ref b4), .unset, .unset, .unset] [(.int ((p2 >>> ((2 : Int32) &&& 31)) &&& (1 : Int32))), (.int (0 : Int32)), (.ref b4)])) target := by
    intro target kt
    by_cases hq : ((p2 >>> ((2 : Int32) &&& 31)) &&& (1 : Int32)) = (0 : Int32)
    · rw [if_pos hq] at hj_ub; subst hj_ub
      show Steps p.tables e below (T15.setTop (mkF m 117 #[.val (.int p0), .val (.int p1), .val (.int p2), .val (.int p3), .val (.int p4), .val (.int (1 : Int32)), .val (.int (0 : Int32)), .val (.int (3 : Int32)), .val (.int mn), .val (.int mx), .val (.double (9218868437227405312 : UInt64)), .second, .val (.double (18442240474082181120 : UInt64)), .second, .val (.ref b3), .val (.ref b4), .unset, .unset, .unset] [(.int ((p2 >>> ((2 : Int32) &&& 31)) &&& (1 : Int32))), (.int (0 : Int32)), (.ref b4)])) _
      refine XS.ifYes X15.here hx rfl (pc0 := 117) (pc' := 125) rfl (hb hby at_117) rfl ((if0 _ _).trans (teq hq).1) (by decide) (by decide) ?_
      show Steps p.tables e below (T15.setTop (mkF m 125 #[.val (.int p0), .val (.int p1), .val (.int p2), .val (.int p3), .val (.int p4), .val (.int (1 : Int32)), .val (.int (0 : Int32)), .val (.int (3 : Int32)), .val (.int mn), .val (.int mx), .val (.double (9218868437227405312 : UInt64)), .second, .val (.double (18442240474082181120 : UInt64)), .second, .val (.ref b3), .val (.ref b4), .unset, .unset, .unset] [(.int (0 : Int32)), (.ref b4)])) _
      refine XS.iload X15.here hx rfl (hb hby at_125) rfl ?_
      show Steps p.tables e below (T15.setTop (mkF m 127 #[.val (.int p0), .val (.int p1), .val (.int p2), .val (.int p3), .val (.int p4), .val (.int (1 : Int32)), .val (.int (0 : Int32)), .val (.int (3 : Int32)), .val (.int mn), .val (.int mx), .val (.double (9218868437227405312 : UInt64)), .second, .val (.double (18442240474082181120 : UInt64)), .second, .val (.ref b3), .val (.ref b4), .unset, .unset, .unset] [(.int p4), (.int (0 : Int32)), (.ref b4)])) _
      refine XS.i2dS X15.here hx rfl (hb hby at_127) rfl (v := (FP.i2d p4)) rfl ?_
      show Steps p.tables e below (T15.setTop (mkF m 128 #[.val (.int p0), .val (.int p1), .val (.int p2), .val (.int p3), .val (.int p4), .val (.int (1 : Int32)), .val (.int (0 : Int32)), .val (.int (3 : Int32)), .val (.int mn), .val (.int mx), .val (.double (9218868437227405312 : UInt64)), .second, .val (.double (18442240474082181120 : UInt64)), .second, .val (.ref b3), .val (.ref b4), .unset, .unset, .unset] [(.double (FP.i2d p4)), (.int (0 : Int32)), (.ref b4)])) _
      exact kt
    · rw [if_neg hq] at hj_ub; subst hj_ub
      show Steps p.tables e below (T15.setTop (mkF m 117 #[.val (.int p0), .val (.int p1), .val (.int p2), .val (.int p3), .val (.int p4), .val (.int (1 : Int32)), .val (.int (0 : Int32)), .val (.int (3 : Int32)), .val (.int mn), .val (.int mx), .val (.double (9218868437227405312 : UInt64)), .second, .val (.double (18442240474082181120 : UInt64)), .second, .val (.ref b3), .val (.ref b4), .unset, .unset, .unset] [(.int ((p2 >>> ((2 : Int32) &&& 31)) &&& (1 : Int32))), (.int (0 : Int32)), (.ref b4)])) _
      refine XS.ifNo X15.here hx rfl (hb hby at_117) rfl ((if0 _ _).trans (feq hq).1) ?_
      show Steps p.tables e below (T15.setTop (mkF m 120 #[.val (.int p0), .val (.int p1), .val (.int p2), .val (.int p3), .val (.int p4), .val (.int (1 : Int32)), .val (.int (0 : Int32)), .val (.int (3 : Int32)), .val (.int mn), .val (.int mx), .val (.double (9218868437227405312 : UInt64)), .second, .val (.double (18442240474082181120 : UInt64)), .second, .val (.ref b3), .val (.ref b4), .unset, .unset, .unset] [(.int (0 : Int32)), (.ref b4)])) _
      refine XS.dload X15.here hx rfl (hb hby at_120) rfl ?_
      show Steps p.tables e below (T15.setTop (mkF m 122 #[.val (.int p0), .val (.int p1), .val (.int p2), .val (.int p3), .val (.int p4), .val (.int (1 : Int32)), .val (.int (0 : Int32)), .val (.int (3 : Int32)), .val (.int mn), .val (.int mx), .val (.double (9218868437227405312 : UInt64)), .second, .val (.double (18442240474082181120 : UInt64)), .second, .val (.ref b3), .val (.ref b4), .unset, .unset, .unset] [(.double (9218868437227405312 : UInt64)), (.int (0 : Int32)), (.ref b4)])) _
      refine XS.goto X15.here hx rfl (pc0 := 122) (pc' := 128) rfl (hb hby at_122) (by decide) (by decide) ?_
      show Steps p.tables e below (T15.setTop (mkF m 128 #[.val (.int p0), .val (.int p1), .val (.int p2), .val (.int p3), .val (.int p4), .val (.int (1 : Int32)), .val (.int (0 : Int32)), .val (.int (3 : Int32)), .val (.int mn), .val (.int mx), .val (.double (9218868437227405312 : UInt64)), .second, .val (.double (18442240474082181120 : UInt64)), .second, .val (.ref b3), .val (.ref b4), .unset, .unset, .unset] [(.double (9218868437227405312 : UInt64)), (.int (0 : Int32)), (.ref b4)])) _
      exact kt
  obtain ⟨cq19, Arq19, qq19, Sq19, Nq19, Hq19, Gq19⟩ := id f16
  obtain ⟨T20, h20, X20, e20, W20, st20⟩ := stD X15 hx hZ e15 Arq19 (j := (0 : Int32)) (inb_of Sq19 ⟨by decide, by decide⟩) (g := (mkF m 128 #[.val (.int p0), .val (.int p1), .val (.int p2), .val (.int p3), .val (.int p4), .val (.int (1 : Int32)), .val (.int (0 : Int32)), .val (.int (3 : Int32)), .val (.int mn), .val (.int mx), .val (.double (9218868437227405312 : UInt64)), .second, .val (.double (18442240474082181120 : UInt64)), .second, .val (.ref b3), .val (.ref b4), .unset, .unset, .unset] [(.double ub), (.int (0 : Int32)), (.ref b4)])) rfl rfl (hb hby at_128)
  have f21 := f17.other W20 ne_b3_b4
  have K20 : Keep h0 h20 [] := K15.wr W20 (Or.inr sz_b4)
  have Zs20 := Nat.le_trans Zs15 (Keep.of_wr W20).1
  have N20 := Fr.snoc X20 N15 g_b4
  have f22 : Arv Z h20 b4 k4 .double (2 : Int32) [(.double ub), (.double (FP.i2d mx))] (.double (0 : UInt64)) := Arv.set Arq19 qq19 Sq19 Nq19 Hq19 Gq19 rfl W20 0 rfl (Nat.le_of_ble_eq_true rfl)
  obtain ⟨T23, h23, X23, e23, E23, A23, D23, -, st23⟩ := newO X20 hx hZ hown (hw _ (List.mem_of_getElem? (i := 10) rfl)) (hw _ (List.mem_of_getElem? (i := 11) rfl)) (hw _ (List.mem_of_getElem? (i := 12) rfl)) e20 (g := (mkF m 129 #[.val (.int p0), .val (.int p1), .val (.int p2), .val (.int p3), .val (.int p4), .val (.int (1 : Int32)), .val (.int (0 : Int32)), .val (.int (3 : Int32)), .val (.int mn), .val (.int mx), .val (.double (9218868437227405312 : UInt64)), .second, .val (.double (18442240474082181120 : UInt64)), .second, .val (.ref b3), .val (.ref b4), .unset, .unset, .unset] [])) rfl (hb hby at_129) (by decide) (by decide)
  obtain ⟨b23, g23⟩ : ∃ z, z = h20.size := ⟨_, rfl⟩
  rw [← g23] at A23 D23 st23
  have ne_b3_b23 : b3 ≠ b23 := Nat.ne_of_lt (Nat.lt_of_lt_of_le f21.lt (Nat.le_of_eq g23.symm))
  have ne_b4_b23 : b4 ≠ b23 := Nat.ne_of_lt (Nat.lt_of_lt_of_le f22.lt (Nat.le_of_eq g23.symm))
  have g_b23 : n0 ≤ b23 := Nat.le_trans Zs20 (Nat.le_of_eq g23.symm)
  have sz_b23 : h0.size ≤ b23 := Nat.le_trans K20.1 (Nat.le_of_eq g23.symm)
  have f24 := f21.ext E23
  have f25 := f22.ext E23
  have K23 : Keep h0 h23 [] := K20.ext E23
  have Zs23 := Nat.le_trans Zs20 E23.1
  have F23_lower : Fld Z h23 b23 "com/example/hedge/hedge/ValueBounds" "lower" "[D" .null := D23 (Or.inr (hw _ (List.mem_of_getElem? (i := 27) rfl))) (ty := (.array .double)) (by decide)
  have F23_upper : Fld Z h23 b23 "com/example/hedge/hedge/ValueBounds" "upper" "[D" .null := D23 (Or.inr (hw _ (List.mem_of_getElem? (i := 29) rfl))) (ty := (.array .double)) (by decide)
  have F23_strategy : Fld Z h23 b23 "com/example/hedge/hedge/ValueBounds" "strategy" "[[I" .null := D23 (Or.inr (hw _ (List.mem_of_getElem? (i := 31) rfl))) (ty := (.array (.array .int))) (by decide)
  obtain ⟨T26, h26, k26, X26, e26, E26, A26, B26, st26⟩ := newPE X23 hx hZ (hw _ (List.mem_of_getElem? (i := 13) rfl)) e23 (g := (mkF m 138 #[.val (.int p0), .val (.int p1), .val (.int p2), .val (.int p3), .val (.int p4), .val (.int (1 : Int32)), .val (.int (0 : Int32)), .val (.int (3 : Int32)), .val (.int mn), .val (.int mx), .val (.double (9218868437227405312 : UInt64)), .second, .val (.double (18442240474082181120 : UInt64)), .second, .val (.ref b3), .val (.ref b4), .unset, .unset, .unset] [(.int (2 : Int32)), (.ref b4), (.ref b3), (.ref b23), (.ref b23)])) rfl (hb hby at_138) rfl (by decide) (cap := 2) (by decide) (by decide) (by decide) (by decide) (ad := "[I") rfl
  obtain ⟨b26, g26⟩ : ∃ z, z = h23.size := ⟨_, rfl⟩
  rw [← g26] at A26 st26 B26
  have ne_b3_b26 : b3 ≠ b26 := Nat.ne_of_lt (Nat.lt_of_lt_of_le f24.lt (Nat.le_of_eq g26.symm))
  have ne_b4_b26 : b4 ≠ b26 := Nat.ne_of_lt (Nat.lt_of_lt_of_le f25.lt (Nat.le_of_eq g26.symm))
  have ne_b23_b26 : b23 ≠ b26 := Nat.ne_of_lt (Nat.lt_of_lt_of_le A23.lt (Nat.le_of_eq g26.symm))
  have g_b26 : n0 ≤ b26 := Nat.le_trans Zs23 (Nat.le_of_eq g26.symm)
  have sz_b26 : h0.size ≤ b26 := Nat.le_trans K23.1 (Nat.le_of_eq g26.symm)
  have f27 := f24.ext E26
  have f28 := f25.ext E26
  have f29 := A23.ext E26
  have f30 := F23_lower.ext E26
  have f31 := F23_upper.ext E26
  have f32 := F23_strategy.ext E26
  have K26 : Keep h0 h26 [] := K23.ext E26
  have Zs26 := Nat.le_trans Zs23 E26.1
  have V26 : Arv Z h26 b26 k26 .int (2 : Int32) [(.int (0 : Int32)), (.int (0 : Int32))] (.int (0 : Int32)) := (Arv.new A26 (by decide)).pad (pad_rep [] (.int (0 : Int32)) 2)
  obtain ⟨cq33, Arq33, qq33, Sq33, Nq33, Hq33, Gq33⟩ := id V26
  obtain ⟨T34, h34, X34, e34, W34, st34⟩ := stI X26 hx hZ e26 Arq33 (j := (0 : Int32)) (inb_of Sq33 ⟨by decide, by decide⟩) (g := (mkF m 143 #[.val (.int p0), .val (.int p1), .val (.int p2), .val (.int p3), .val (.int p4), .val (.int (1 : Int32)), .val (.int (0 : Int32)), .val (.int (3 : Int32)), .val (.int mn), .val (.int mx), .val (.double (9218868437227405312 : UInt64)), .second, .val (.double (18442240474082181120 : UInt64)), .second, .val (.ref b3), .val (.ref b4), .unset, .unset, .unset] [(.int (-1 : Int32)), (.int (0 : Int32)), (.ref b26), (.ref b26), (.ref b4), (.ref b3), (.ref b23), (.ref b23)])) rfl rfl (hb hby at_143)
  have f35 := f27.other W34 ne_b3_b26
  have f36 := f28.other W34 ne_b4_b26
  have f37 := f29.wr W34
  have f38 := f30.other W34 (Or.inl ne_b23_b26)
  have f39 := f31.other W34 (Or.inl ne_b23_b26)
  have f40 := f32.other W34 (Or.inl ne_b23_b26)
  have f41 := B26.wr W34
  have K34 : Keep h0 h34 [] := K26.wr W34 (Or.inr sz_b26)
  have Zs34 := Nat.le_trans Zs26 (Keep.of_wr W34).1
  have N34 := Fr.snoc X34 N20 g_b26
  have f42 : Arv Z h34 b26 k26 .int (2 : Int32) [(.int (-1 : Int32)), (.int (0 : Int32))] (.int (0 : Int32)) := Arv.set Arq33 qq33 Sq33 Nq33 Hq33 Gq33 rfl W34 0 rfl (Nat.le_of_ble_eq_true rfl)
  obtain ⟨cq43, Arq43, qq43, Sq43, Nq43, Hq43, Gq43⟩ := id f42
  obtain ⟨T44, h44, X44, e44, W44, st44⟩ := stI X34 hx hZ e34 Arq43 (j := (1 : Int32)) (inb_of Sq43 ⟨by decide, by decide⟩) (g := (mkF m 147 #[.val (.int p0), .val (.int p1), .val (.int p2), .val (.int p3), .val (.int p4), .val (.int (1 : Int32)), .val (.int (0 : Int32)), .val (.int (3 : Int32)), .val (.int mn), .val (.int mx), .val (.double (9218868437227405312 : UInt64)), .second, .val (.double (18442240474082181120 : UInt64)), .second, .val (.ref b3), .val (.ref b4), .unset, .unset, .unset] [(.int (-1 : Int32)), (.int (1 : Int32)), (.ref b26), (.ref b26), (.ref b4), (.ref b3), (.ref b23), (.ref b23)])) rfl rfl (hb hby at_147)
  have f45 := f35.other W44 ne_b3_b26
  have f46 := f36.other W44 ne_b4_b26
  have f47 := f37.wr W44
  have f48 := f38.other W44 (Or.inl ne_b23_b26)
  have f49 := f39.other W44 (Or.inl ne_b23_b26)
  have f50 := f40.other W44 (Or.inl ne_b23_b26)
  have f51 := f41.wr W44
  have K44 : Keep h0 h44 [] := K34.wr W44 (Or.inr sz_b26)
  have Zs44 := Nat.le_trans Zs34 (Keep.of_wr W44).1
  have N44 := Fr.snoc X44 N34 g_b26
  have f52 : Arv Z h44 b26 k26 .int (2 : Int32) [(.int (-1 : Int32)), (.int (-1 : Int32))] (.int (0 : Int32)) := Arv.set Arq43 qq43 Sq43 Nq43 Hq43 Gq43 rfl W44 1 rfl (Nat.le_of_ble_eq_true rfl)
  obtain ⟨_, _, ⟨T53, L53, k53, n53⟩, -, X53, ⟨Lc53, hQ53, l53, y53, z53⟩, st53⟩ := X44.specialBack hx (y := (⟨"com/example/hedge/hedge/ValueBounds", "<init>", "([D[D[I)V"⟩ : MethodName)) rfl hown (mvT hZ (hw _ (List.mem_of_getElem? (i := 14) rfl))) (mvT hZ (hw _ (List.mem_of_getElem? (i := 15) rfl))) (mvT hZ (hw _ (List.mem_of_getElem? (i := 16) rfl))) (by decide) (backOf (W := 1) (rm3 l Z a0 hw [] b23 b3 b4 b26 h44 n0 Zs44 f47 g_b23 f48 f49 f50 f51) hZ (hw _ (List.mem_of_getElem? (i := 16) rfl)) (hw _ (List.mem_of_getElem? (i := 12) rfl)) (by decide) (by decide)) (g := (mkF m 148 #[.val (.int p0), .val (.int p1), .val (.int p2), .val (.int p3), .val (.int p4), .val (.int (1 : Int32)), .val (.int (0 : Int32)), .val (.int (3 : Int32)), .val (.int mn), .val (.int mx), .val (.double (9218868437227405312 : UInt64)), .second, .val (.double (18442240474082181120 : UInt64)), .second, .val (.ref b3), .val (.ref b4), .unset, .unset, .unset] [(.ref b26), (.ref b4), (.ref b3), (.ref b23), (.ref b23)])) rfl (by rw [hml]; rfl) (Steps.refl _) (a := b23) (argsL := [(.ref b3), (.ref b4), (.ref b26)]) (rest := [(.ref b23)]) (lenOf pd_2 rfl) rfl (by show 2 * 0 + _ ≤ _; exact Nat.le_of_eq rfl) (hb hby at_148) (fun _ _ => ⟨rfl, e44, (by decide : 4 + 1 ≤ _), (by decide : 9 + 1 ≤ _)⟩)
  dsimp only [Pt.U, Pt.locs, Pt.cells, Pt.slots] at X53 l53 y53 z53 st53 hQ53
  subst l53 y53 z53
  obtain ⟨rfl, N53q, K53q, f54, f55, f56⟩ := hQ53
  have N53 := Fr.app N44 N53q
  have f57 := f45.keep K53q (own_niS ne_b3_b23 own_ni0)
  have f58 := f46.keep K53q (own_niS ne_b4_b23 own_ni0)
  have f59 := f47.keep K53q
  have f60 := f52.keep K53q (own_niS (Ne.symm ne_b23_b26) own_ni0)
  have f61 := f51.keep K53q
  have K53 : Keep h0 T53.heap [] := K44.trans K53q (own_allS (Or.inr sz_b23) own_all0)
  have Zs53 := Nat.le_trans Zs44 K53q.1
  obtain ⟨cq62, kq62, q62a, q62b, q62c⟩ := isOf hZ rfl f54
  obtain ⟨_, _, ⟨T62, L62, k62, n62⟩, -, X62, ⟨Lc62, hQ62, l62, y62, z62⟩, st62⟩ := X53.virtualBack hx (y := (⟨"com/example/hedge/hedge/ValueBounds", "value", "(I)D"⟩ : MethodName)) (z := (⟨"com/example/hedge/hedge/ValueBounds", "value", "(I)D"⟩ : MethodName)) hown (mvT hZ (hw _ (List.mem_of_getElem? (i := 32) rfl))) (mvT hZ (hw _ (List.mem_of_getElem? (i := 33) rfl))) (notFace_of_selects (args := #[]) (mvT hZ (hw _ (List.mem_of_getElem? (i := 35) rfl)))) (mvT hZ (hw _ (List.mem_of_getElem? (i := 35) rfl))) (mvT hZ (hw _ (List.mem_of_getElem? (i := 34) rfl))) (by decide) (backOf (W := 0) (rm6_1f l Z a0 hw [] b23 b3 b4 k3 k4 (FP.i2d p4) (18442240474082181120 : UInt64) ub (FP.i2d mx) T53.heap n0 Zs53 f55 f56 f57 f58 hd9_157 nn32_157 nn36_157) hZ (hw _ (List.mem_of_getElem? (i := 36) rfl)) (hw _ (List.mem_of_getElem? (i := 12) rfl)) (by decide) (by decide)) q62a q62c (g := (mkF m 157 #[.val (.int p0), .val (.int p1), .val (.int p2), .val (.int p3), .val (.int p4), .val (.int (1 : Int32)), .val (.int (0 : Int32)), .val (.int (3 : Int32)), .val (.int mn), .val (.int mx), .val (.double (9218868437227405312 : UInt64)), .second, .val (.double (18442240474082181120 : UInt64)), .second, .val (.ref b3), .val (.ref b4), .val (.ref b23), .unset, .unset] [(.int (1 : Int32)), (.ref b23)])) rfl (by rw [hml]; rfl) (Steps.refl _) (argsL := [(.int (1 : Int32))]) (rest := []) (lenOf pd_3 rfl) rfl (by show 2 * 0 + _ ≤ _; exact Nat.le_of_eq rfl) (hb hby at_157) (fun _ _ => ⟨rfl, rfl, (by decide : 5 + 0 ≤ _), (by decide : 10 + 0 ≤ _)⟩)
  dsimp only [Pt.U, Pt.locs, Pt.cells, Pt.slots] at X62 l62 y62 z62 st62 hQ62
  subst l62 y62 z62
  obtain ⟨rfl, N62q, eh62⟩ := hQ62
  have N62 := Fr.app N53 N62q
  have e62 : T62.heap = T53.heap := eh62
  obtain ⟨fs, hr, hrun, hended, hW, hsame⟩ := X62.leave (v := some (.int (1 : Int32))) (fun h => by rw [Bd.returns] at h; cases h)
  refine ⟨_, _, pre0 _ ?_, hrun, hended, _, _, rfl, ?_, ⟨_, rfl⟩, hW, hsame.mono (by decide) (by decide)⟩
  · show Steps p.tables e below (s₁.setTop (mkF m 0 #[.val (.int p0), .val (.int p1), .val (.int p2), .val (.int p3), .val (.int p4), .unset, .unset, .unset, .unset, .unset, .unset, .unset, .unset, .unset, .unset, .unset, .unset, .unset, .unset] [])) _
    refine XS.iloadN X0.here hx rfl (hb hby at_0) rfl ?_
    show Steps p.tables e below (s₁.setTop (mkF m 1 #[.val (.int p0), .val (.int p1), .val (.int p2), .val (.int p3), .val (.int p4), .unset, .unset, .unset, .unset, .unset, .unset, .unset, .unset, .unset, .unset, .unset, .unset, .unset, .unset] [(.int p3)])) _
    refine XS.iconst X0.here hx rfl (hb hby at_1) ?_
    show Steps p.tables e below (s₁.setTop (mkF m 2 #[.val (.int p0), .val (.int p1), .val (.int p2), .val (.int p3), .val (.int p4), .unset, .unset, .unset, .unset, .unset, .unset, .unset, .unset, .unset, .unset, .unset, .unset, .unset, .unset] [(.int (1 : Int32)), (.int p3)])) _
    refine XS.iand X0.here hx rfl (hb hby at_2) rfl ?_
    show Steps p.tables e below (s₁.setTop (mkF m 3 #[.val (.int p0), .val (.int p1), .val (.int p2), .val (.int p3), .val (.int p4), .unset, .unset, .unset, .unset, .unset, .unset, .unset, .unset, .unset, .unset, .unset, .unset, .unset, .unset] [(.int (p3 &&& (1 : Int32)))])) _
    rw [hv2]
    show Steps p.tables e below (s₁.setTop (mkF m 3 #[.val (.int p0), .val (.int p1), .val (.int p2), .val (.int p3), .val (.int p4), .unset, .unset, .unset, .unset, .unset, .unset, .unset, .unset, .unset, .unset, .unset, .unset, .unset, .unset] [(.int (1 : Int32))])) _
    refine XS.istore X0.here hx rfl (hb hby at_3) rfl (l' := #[.val (.int p0), .val (.int p1), .val (.int p2), .val (.int p3), .val (.int p4), .val (.int (1 : Int32)), .unset, .unset, .unset, .unset, .unset, .unset, .unset, .unset, .unset, .unset, .unset, .unset, .unset]) rfl ?_
    show Steps p.tables e below (s₁.setTop (mkF m 5 #[.val (.int p0), .val (.int p1), .val (.int p2), .val (.int p3), .val (.int p4), .val (.int (1 : Int32)), .unset, .unset, .unset, .unset, .unset, .unset, .unset, .unset, .unset, .unset, .unset, .unset, .unset] [])) _
    refine XS.iconst X0.here hx rfl (hb hby at_5) ?_
    show Steps p.tables e below (s₁.setTop (mkF m 6 #[.val (.int p0), .val (.int p1), .val (.int p2), .val (.int p3), .val (.int p4), .val (.int (1 : Int32)), .unset, .unset, .unset, .unset, .unset, .unset, .unset, .unset, .unset, .unset, .unset, .unset, .unset] [(.int (1 : Int32))])) _
    refine XS.iload X0.here hx rfl (hb hby at_6) rfl ?_
    show Steps p.tables e below (s₁.setTop (mkF m 8 #[.val (.int p0), .val (.int p1), .val (.int p2), .val (.int p3), .val (.int p4), .val (.int (1 : Int32)), .unset, .unset, .unset, .unset, .unset, .unset, .unset, .unset, .unset, .unset, .unset, .unset, .unset] [(.int (1 : Int32)), (.int (1 : Int32))])) _
    refine XS.isub X0.here hx rfl (hb hby at_8) rfl ?_
    show Steps p.tables e below (s₁.setTop (mkF m 9 #[.val (.int p0), .val (.int p1), .val (.int p2), .val (.int p3), .val (.int p4), .val (.int (1 : Int32)), .unset, .unset, .unset, .unset, .unset, .unset, .unset, .unset, .unset, .unset, .unset, .unset, .unset] [(.int ((1 : Int32) - (1 : Int32)))])) _
    rw [show ((1 : Int32) - (1 : Int32)) = (0 : Int32) by decide]
    show Steps p.tables e below (s₁.setTop (mkF m 9 #[.val (.int p0), .val (.int p1), .val (.int p2), .val (.int p3), .val (.int p4), .val (.int (1 : Int32)), .unset, .unset, .unset, .unset, .unset, .unset, .unset, .unset, .unset, .unset, .unset, .unset, .unset] [(.int (0 : Int32))])) _
    refine XS.istore X0.here hx rfl (hb hby at_9) rfl (l' := #[.val (.int p0), .val (.int p1), .val (.int p2), .val (.int p3), .val (.int p4), .val (.int (1 : Int32)), .val (.int (0 : Int32)), .unset, .unset, .unset, .unset, .unset, .unset, .unset, .unset, .unset, .unset, .unset, .unset]) rfl ?_
    show Steps p.tables e below (s₁.setTop (mkF m 11 #[.val (.int p0), .val (.int p1), .val (.int p2), .val (.int p3), .val (.int p4), .val (.int (1 : Int32)), .val (.int (0 : Int32)), .unset, .unset, .unset, .unset, .unset, .unset, .unset, .unset, .unset, .unset, .unset, .unset] [])) _
    refine XS.iloadN X0.here hx rfl (hb hby at_11) rfl ?_
    show Steps p.tables e below (s₁.setTop (mkF m 12 #[.val (.int p0), .val (.int p1), .val (.int p2), .val (.int p3), .val (.int p4), .val (.int (1 : Int32)), .val (.int (0 : Int32)), .unset, .unset, .unset, .unset, .unset, .unset, .unset, .unset, .unset, .unset, .unset, .unset] [(.int p2)])) _
    refine XS.iconst X0.here hx rfl (hb hby at_12) ?_
    show Steps p.tables e below (s₁.setTop (mkF m 13 #[.val (.int p0), .val (.int p1), .val (.int p2), .val (.int p3), .val (.int p4), .val (.int (1 : Int32)), .val (.int (0 : Int32)), .unset, .unset, .unset, .unset, .unset, .unset, .unset, .unset, .unset, .unset, .unset, .unset] [(.int (3 : Int32)), (.int p2)])) _
    refine XS.iand X0.here hx rfl (hb hby at_13) rfl ?_
    show Steps p.tables e below (s₁.setTop (mkF m 14 #[.val (.int p0), .val (.int p1), .val (.int p2), .val (.int p3), .val (.int p4), .val (.int (1 : Int32)), .val (.int (0 : Int32)), .unset, .unset, .unset, .unset, .unset, .unset, .unset, .unset, .unset, .unset, .unset, .unset] [(.int (p2 &&& (3 : Int32)))])) _
    rw [hv13]
    show Steps p.tables e below (s₁.setTop (mkF m 14 #[.val (.int p0), .val (.int p1), .val (.int p2), .val (.int p3), .val (.int p4), .val (.int (1 : Int32)), .val (.int (0 : Int32)), .unset, .unset, .unset, .unset, .unset, .unset, .unset, .unset, .unset, .unset, .unset, .unset] [(.int (3 : Int32))])) _
    refine XS.istore X0.here hx rfl (hb hby at_14) rfl (l' := #[.val (.int p0), .val (.int p1), .val (.int p2), .val (.int p3), .val (.int p4), .val (.int (1 : Int32)), .val (.int (0 : Int32)), .val (.int (3 : Int32)), .unset, .unset, .unset, .unset, .unset, .unset, .unset, .unset, .unset, .unset, .unset]) rfl ?_
    show Steps p.tables e below (s₁.setTop (mkF m 16 #[.val (.int p0), .val (.int p1), .val (.int p2), .val (.int p3), .val (.int p4), .val (.int (1 : Int32)), .val (.int (0 : Int32)), .val (.int (3 : Int32)), .unset, .unset, .unset, .unset, .unset, .unset, .unset, .unset, .unset, .unset, .unset] [])) _
    refine XS.iloadN X0.here hx rfl (hb hby at_16) rfl ?_
    show Steps p.tables e below (s₁.setTop (mkF m 17 #[.val (.int p0), .val (.int p1), .val (.int p2), .val (.int p3), .val (.int p4), .val (.int (1 : Int32)), .val (.int (0 : Int32)), .val (.int (3 : Int32)), .unset, .unset, .unset, .unset, .unset, .unset, .unset, .unset, .unset, .unset, .unset] [(.int p0)])) _
    refine XS.iloadN X0.here hx rfl (hb hby at_17) rfl ?_
    show Steps p.tables e below (s₁.setTop (mkF m 18 #[.val (.int p0), .val (.int p1), .val (.int p2), .val (.int p3), .val (.int p4), .val (.int (1 : Int32)), .val (.int (0 : Int32)), .val (.int (3 : Int32)), .unset, .unset, .unset, .unset, .unset, .unset, .unset, .unset, .unset, .unset, .unset] [(.int p1), (.int p0)])) _
    refine st1 _ ?_
    show Steps p.tables e below (T1.setTop (mkF m 21 #[.val (.int p0), .val (.int p1), .val (.int p2), .val (.int p3), .val (.int p4), .val (.int (1 : Int32)), .val (.int (0 : Int32)), .val (.int (3 : Int32)), .unset, .unset, .unset, .unset, .unset, .unset, .unset, .unset, .unset, .unset, .unset] [(.int mn)])) _
    refine XS.istore X1.here hx rfl (hb hby at_21) rfl (l' := #[.val (.int p0), .val (.int p1), .val (.int p2), .val (.int p3), .val (.int p4), .val (.int (1 : Int32)), .val (.int (0 : Int32)), .val (.int (3 : Int32)), .val (.int mn), .unset, .unset, .unset, .unset, .unset, .unset, .unset, .unset, .unset, .unset]) rfl ?_
    show Steps p.tables e below (T1.setTop (mkF m 23 #[.val (.int p0), .val (.int p1), .val (.int p2), .val (.int p3), .val (.int p4), .val (.int (1 : Int32)), .val (.int (0 : Int32)), .val (.int (3 : Int32)), .val (.int mn), .unset, .unset, .unset, .unset, .unset, .unset, .unset, .unset, .unset, .unset] [])) _
    refine XS.iloadN X1.here hx rfl (hb hby at_23) rfl ?_
    show Steps p.tables e below (T1.setTop (mkF m 24 #[.val (.int p0), .val (.int p1), .val (.int p2), .val (.int p3), .val (.int p4), .val (.int (1 : Int32)), .val (.int (0 : Int32)), .val (.int (3 : Int32)), .val (.int mn), .unset, .unset, .unset, .unset, .unset, .unset, .unset, .unset, .unset, .unset] [(.int p0)])) _
    refine XS.iloadN X1.here hx rfl (hb hby at_24) rfl ?_
    show Steps p.tables e below (T1.setTop (mkF m 25 #[.val (.int p0), .val (.int p1), .val (.int p2), .val (.int p3), .val (.int p4), .val (.int (1 : Int32)), .val (.int (0 : Int32)), .val (.int (3 : Int32)), .val (.int mn), .unset, .unset, .unset, .unset, .unset, .unset, .unset, .unset, .unset, .unset] [(.int p1), (.int p0)])) _
    refine st2 _ ?_
    show Steps p.tables e below (T2.setTop (mkF m 28 #[.val (.int p0), .val (.int p1), .val (.int p2), .val (.int p3), .val (.int p4), .val (.int (1 : Int32)), .val (.int (0 : Int32)), .val (.int (3 : Int32)), .val (.int mn), .unset, .unset, .unset, .unset, .unset, .unset, .unset, .unset, .unset, .unset] [(.int mx)])) _
    refine XS.istore X2.here hx rfl (hb hby at_28) rfl (l' := #[.val (.int p0), .val (.int p1), .val (.int p2), .val (.int p3), .val (.int p4), .val (.int (1 : Int32)), .val (.int (0 : Int32)), .val (.int (3 : Int32)), .val (.int mn), .val (.int mx), .unset, .unset, .unset, .unset, .unset, .unset, .unset, .unset, .unset]) rfl ?_
    show Steps p.tables e below (T2.setTop (mkF m 30 #[.val (.int p0), .val (.int p1), .val (.int p2), .val (.int p3), .val (.int p4), .val (.int (1 : Int32)), .val (.int (0 : Int32)), .val (.int (3 : Int32)), .val (.int mn), .val (.int mx), .unset, .unset, .unset, .unset, .unset, .unset, .unset, .unset, .unset] [])) _
    refine X2.ldc2DoubleC hx hown (mvT hZ (hw _ (List.mem_of_getElem? (i := 7) rfl))) (g := (mkF m 30 #[.val (.int p0), .val (.int p1), .val (.int p2), .val (.int p3), .val (.int p4), .val (.int (1 : Int32)), .val (.int (0 : Int32)), .val (.int (3 : Int32)), .val (.int mn), .val (.int mx), .unset, .unset, .unset, .unset, .unset, .unset, .unset, .unset, .unset] [])) rfl (hb hby at_30) _ ?_
    show Steps p.tables e below (T2.setTop (mkF m 33 #[.val (.int p0), .val (.int p1), .val (.int p2), .val (.int p3), .val (.int p4), .val (.int (1 : Int32)), .val (.int (0 : Int32)), .val (.int (3 : Int32)), .val (.int mn), .val (.int mx), .unset, .unset, .unset, .unset, .unset, .unset, .unset, .unset, .unset] [(.double (9218868437227405312 : UInt64))])) _
    refine XS.dstore X2.here hx rfl (hb hby at_33) rfl (l' := #[.val (.int p0), .val (.int p1), .val (.int p2), .val (.int p3), .val (.int p4), .val (.int (1 : Int32)), .val (.int (0 : Int32)), .val (.int (3 : Int32)), .val (.int mn), .val (.int mx), .val (.double (9218868437227405312 : UInt64)), .second, .unset, .unset, .unset, .unset, .unset, .unset, .unset]) rfl ?_
    show Steps p.tables e below (T2.setTop (mkF m 35 #[.val (.int p0), .val (.int p1), .val (.int p2), .val (.int p3), .val (.int p4), .val (.int (1 : Int32)), .val (.int (0 : Int32)), .val (.int (3 : Int32)), .val (.int mn), .val (.int mx), .val (.double (9218868437227405312 : UInt64)), .second, .unset, .unset, .unset, .unset, .unset, .unset, .unset] [])) _
    refine X2.ldc2DoubleC hx hown (mvT hZ (hw _ (List.mem_of_getElem? (i := 8) rfl))) (g := (mkF m 35 #[.val (.int p0), .val (.int p1), .val (.int p2), .val (.int p3), .val (.int p4), .val (.int (1 : Int32)), .val (.int (0 : Int32)), .val (.int (3 : Int32)), .val (.int mn), .val (.int mx), .val (.double (9218868437227405312 : UInt64)), .second, .unset, .unset, .unset, .unset, .unset, .unset, .unset] [])) rfl (hb hby at_35) _ ?_
    show Steps p.tables e below (T2.setTop (mkF m 38 #[.val (.int p0), .val (.int p1), .val (.int p2), .val (.int p3), .val (.int p4), .val (.int (1 : Int32)), .val (.int (0 : Int32)), .val (.int (3 : Int32)), .val (.int mn), .val (.int mx), .val (.double (9218868437227405312 : UInt64)), .second, .unset, .unset, .unset, .unset, .unset, .unset, .unset] [(.double (18442240474082181120 : UInt64))])) _
    refine XS.dstore X2.here hx rfl (hb hby at_38) rfl (l' := #[.val (.int p0), .val (.int p1), .val (.int p2), .val (.int p3), .val (.int p4), .val (.int (1 : Int32)), .val (.int (0 : Int32)), .val (.int (3 : Int32)), .val (.int mn), .val (.int mx), .val (.double (9218868437227405312 : UInt64)), .second, .val (.double (18442240474082181120 : UInt64)), .second, .unset, .unset, .unset, .unset, .unset]) rfl ?_
    show Steps p.tables e below (T2.setTop (mkF m 40 #[.val (.int p0), .val (.int p1), .val (.int p2), .val (.int p3), .val (.int p4), .val (.int (1 : Int32)), .val (.int (0 : Int32)), .val (.int (3 : Int32)), .val (.int mn), .val (.int mx), .val (.double (9218868437227405312 : UInt64)), .second, .val (.double (18442240474082181120 : UInt64)), .second, .unset, .unset, .unset, .unset, .unset] [])) _
    refine XS.iconst X2.here hx rfl (hb hby at_40) ?_
    show Steps p.tables e below (T2.setTop (mkF m 41 #[.val (.int p0), .val (.int p1), .val (.int p2), .val (.int p3), .val (.int p4), .val (.int (1 : Int32)), .val (.int (0 : Int32)), .val (.int (3 : Int32)), .val (.int mn), .val (.int mx), .val (.double (9218868437227405312 : UInt64)), .second, .val (.double (18442240474082181120 : UInt64)), .second, .unset, .unset, .unset, .unset, .unset] [(.int (2 : Int32))])) _
    refine st3 _ ?_
    show Steps p.tables e below (T3.setTop (mkF m 43 #[.val (.int p0), .val (.int p1), .val (.int p2), .val (.int p3), .val (.int p4), .val (.int (1 : Int32)), .val (.int (0 : Int32)), .val (.int (3 : Int32)), .val (.int mn), .val (.int mx), .val (.double (9218868437227405312 : UInt64)), .second, .val (.double (18442240474082181120 : UInt64)), .second, .unset, .unset, .unset, .unset, .unset] [(.ref b3)])) _
    refine XS.astore X3.here hx rfl (hb hby at_43) rfl rfl (l' := #[.val (.int p0), .val (.int p1), .val (.int p2), .val (.int p3), .val (.int p4), .val (.int (1 : Int32)), .val (.int (0 : Int32)), .val (.int (3 : Int32)), .val (.int mn), .val (.int mx), .val (.double (9218868437227405312 : UInt64)), .second, .val (.double (18442240474082181120 : UInt64)), .second, .val (.ref b3), .unset, .unset, .unset, .unset]) rfl ?_
    show Steps p.tables e below (T3.setTop (mkF m 45 #[.val (.int p0), .val (.int p1), .val (.int p2), .val (.int p3), .val (.int p4), .val (.int (1 : Int32)), .val (.int (0 : Int32)), .val (.int (3 : Int32)), .val (.int mn), .val (.int mx), .val (.double (9218868437227405312 : UInt64)), .second, .val (.double (18442240474082181120 : UInt64)), .second, .val (.ref b3), .unset, .unset, .unset, .unset] [])) _
    refine XS.iconst X3.here hx rfl (hb hby at_45) ?_
    show Steps p.tables e below (T3.setTop (mkF m 46 #[.val (.int p0), .val (.int p1), .val (.int p2), .val (.int p3), .val (.int p4), .val (.int (1 : Int32)), .val (.int (0 : Int32)), .val (.int (3 : Int32)), .val (.int mn), .val (.int mx), .val (.double (9218868437227405312 : UInt64)), .second, .val (.double (18442240474082181120 : UInt64)), .second, .val (.ref b3), .unset, .unset, .unset, .unset] [(.int (2 : Int32))])) _
    refine st4 _ ?_
    show Steps p.tables e below (T4.setTop (mkF m 48 #[.val (.int p0), .val (.int p1), .val (.int p2), .val (.int p3), .val (.int p4), .val (.int (1 : Int32)), .val (.int (0 : Int32)), .val (.int (3 : Int32)), .val (.int mn), .val (.int mx), .val (.double (9218868437227405312 : UInt64)), .second, .val (.double (18442240474082181120 : UInt64)), .second, .val (.ref b3), .unset, .unset, .unset, .unset] [(.ref b4)])) _
    refine XS.astore X4.here hx rfl (hb hby at_48) rfl rfl (l' := #[.val (.int p0), .val (.int p1), .val (.int p2), .val (.int p3), .val (.int p4), .val (.int (1 : Int32)), .val (.int (0 : Int32)), .val (.int (3 : Int32)), .val (.int mn), .val (.int mx), .val (.double (9218868437227405312 : UInt64)), .second, .val (.double (18442240474082181120 : UInt64)), .second, .val (.ref b3), .val (.ref b4), .unset, .unset, .unset]) rfl ?_
    show Steps p.tables e below (T4.setTop (mkF m 50 #[.val (.int p0), .val (.int p1), .val (.int p2), .val (.int p3), .val (.int p4), .val (.int (1 : Int32)), .val (.int (0 : Int32)), .val (.int (3 : Int32)), .val (.int mn), .val (.int mx), .val (.double (9218868437227405312 : UInt64)), .second, .val (.double (18442240474082181120 : UInt64)), .second, .val (.ref b3), .val (.ref b4), .unset, .unset, .unset] [])) _
    refine XS.aload X4.here hx rfl (hb hby at_50) rfl rfl ?_
    show Steps p.tables e below (T4.setTop (mkF m 52 #[.val (.int p0), .val (.int p1), .val (.int p2), .val (.int p3), .val (.int p4), .val (.int (1 : Int32)), .val (.int (0 : Int32)), .val (.int (3 : Int32)), .val (.int mn), .val (.int mx), .val (.double (9218868437227405312 : UInt64)), .second, .val (.double (18442240474082181120 : UInt64)), .second, .val (.ref b3), .val (.ref b4), .unset, .unset, .unset] [(.ref b3)])) _
    refine XS.iload X4.here hx rfl (hb hby at_52) rfl ?_
    show Steps p.tables e below (T4.setTop (mkF m 54 #[.val (.int p0), .val (.int p1), .val (.int p2), .val (.int p3), .val (.int p4), .val (.int (1 : Int32)), .val (.int (0 : Int32)), .val (.int (3 : Int32)), .val (.int mn), .val (.int mx), .val (.double (9218868437227405312 : UInt64)), .second, .val (.double (18442240474082181120 : UInt64)), .second, .val (.ref b3), .val (.ref b4), .unset, .unset, .unset] [(.int (1 : Int32)), (.ref b3)])) _
    refine XS.iload X4.here hx rfl (hb hby at_54) rfl ?_
    show Steps p.tables e below (T4.setTop (mkF m 56 #[.val (.int p0), .val (.int p1), .val (.int p2), .val (.int p3), .val (.int p4), .val (.int (1 : Int32)), .val (.int (0 : Int32)), .val (.int (3 : Int32)), .val (.int mn), .val (.int mx), .val (.double (9218868437227405312 : UInt64)), .second, .val (.double (18442240474082181120 : UInt64)), .second, .val (.ref b3), .val (.ref b4), .unset, .unset, .unset] [(.int (3 : Int32)), (.int (1 : Int32)), (.ref b3)])) _
    refine XS.iconst X4.here hx rfl (hb hby at_56) ?_
    show Steps p.tables e below (T4.setTop (mkF m 57 #[.val (.int p0), .val (.int p1), .val (.int p2), .val (.int p3), .val (.int p4), .val (.int (1 : Int32)), .val (.int (0 : Int32)), .val (.int (3 : Int32)), .val (.int mn), .val (.int mx), .val (.double (9218868437227405312 : UInt64)), .second, .val (.double (18442240474082181120 : UInt64)), .second, .val (.ref b3), .val (.ref b4), .unset, .unset, .unset] [(.int (2 : Int32)), (.int (3 : Int32)), (.int (1 : Int32)), (.ref b3)])) _
    refine XS.icmpNo X4.here hx rfl (hb hby at_57) rfl (feq (by decide : ¬ ((3 : Int32) = (2 : Int32)))).1 ?_
    show Steps p.tables e below (T4.setTop (mkF m 60 #[.val (.int p0), .val (.int p1), .val (.int p2), .val (.int p3), .val (.int p4), .val (.int (1 : Int32)), .val (.int (0 : Int32)), .val (.int (3 : Int32)), .val (.int mn), .val (.int mx), .val (.double (9218868437227405312 : UInt64)), .second, .val (.double (18442240474082181120 : UInt64)), .second, .val (.ref b3), .val (.ref b4), .unset, .unset, .unset] [(.int (1 : Int32)), (.ref b3)])) _
    refine XS.iload X4.here hx rfl (hb hby at_60) rfl ?_
    show Steps p.tables e below (T4.setTop (mkF m 62 #[.val (.int p0), .val (.int p1), .val (.int p2), .val (.int p3), .val (.int p4), .val (.int (1 : Int32)), .val (.int (0 : Int32)), .val (.int (3 : Int32)), .val (.int mn), .val (.int mx), .val (.double (9218868437227405312 : UInt64)), .second, .val (.double (18442240474082181120 : UInt64)), .second, .val (.ref b3), .val (.ref b4), .unset, .unset, .unset] [(.int (3 : Int32)), (.int (1 : Int32)), (.ref b3)])) _
    refine XS.iconst X4.here hx rfl (hb hby at_62) ?_
    show Steps p.tables e below (T4.setTop (mkF m 63 #[.val (.int p0), .val (.int p1), .val (.int p2), .val (.int p3), .val (.int p4), .val (.int (1 : Int32)), .val (.int (0 : Int32)), .val (.int (3 : Int32)), .val (.int mn), .val (.int mx), .val (.double (9218868437227405312 : UInt64)), .second, .val (.double (18442240474082181120 : UInt64)), .second, .val (.ref b3), .val (.ref b4), .unset, .unset, .unset] [(.int (3 : Int32)), (.int (3 : Int32)), (.int (1 : Int32)), (.ref b3)])) _
    refine XS.icmpNo X4.here hx rfl (hb hby at_63) rfl (teq (by decide : (3 : Int32) = (3 : Int32))).2 ?_
    show Steps p.tables e below (T4.setTop (mkF m 66 #[.val (.int p0), .val (.int p1), .val (.int p2), .val (.int p3), .val (.int p4), .val (.int (1 : Int32)), .val (.int (0 : Int32)), .val (.int (3 : Int32)), .val (.int mn), .val (.int mx), .val (.double (9218868437227405312 : UInt64)), .second, .val (.double (18442240474082181120 : UInt64)), .second, .val (.ref b3), .val (.ref b4), .unset, .unset, .unset] [(.int (1 : Int32)), (.ref b3)])) _
    refine XS.dload X4.here hx rfl (hb hby at_66) rfl ?_
    show Steps p.tables e below (T4.setTop (mkF m 68 #[.val (.int p0), .val (.int p1), .val (.int p2), .val (.int p3), .val (.int p4), .val (.int (1 : Int32)), .val (.int (0 : Int32)), .val (.int (3 : Int32)), .val (.int mn), .val (.int mx), .val (.double (9218868437227405312 : UInt64)), .second, .val (.double (18442240474082181120 : UInt64)), .second, .val (.ref b3), .val (.ref b4), .unset, .unset, .unset] [(.double (18442240474082181120 : UInt64)), (.int (1 : Int32)), (.ref b3)])) _
    refine XS.goto X4.here hx rfl (pc0 := 68) (pc' := 74) rfl (hb hby at_68) (by decide) (by decide) ?_
    show Steps p.tables e below (T4.setTop (mkF m 74 #[.val (.int p0), .val (.int p1), .val (.int p2), .val (.int p3), .val (.int p4), .val (.int (1 : Int32)), .val (.int (0 : Int32)), .val (.int (3 : Int32)), .val (.int mn), .val (.int mx), .val (.double (9218868437227405312 : UInt64)), .second, .val (.double (18442240474082181120 : UInt64)), .second, .val (.ref b3), .val (.ref b4), .unset, .unset, .unset] [(.double (18442240474082181120 : UInt64)), (.int (1 : Int32)), (.ref b3)])) _
    refine st7 _ ?_
    show Steps p.tables e below (T7.setTop (mkF m 75 #[.val (.int p0), .val (.int p1), .val (.int p2), .val (.int p3), .val (.int p4), .val (.int (1 : Int32)), .val (.int (0 : Int32)), .val (.int (3 : Int32)), .val (.int mn), .val (.int mx), .val (.double (9218868437227405312 : UInt64)), .second, .val (.double (18442240474082181120 : UInt64)), .second, .val (.ref b3), .val (.ref b4), .unset, .unset, .unset] [])) _
    refine XS.aload X7.here hx rfl (hb hby at_75) rfl rfl ?_
    show Steps p.tables e below (T7.setTop (mkF m 77 #[.val (.int p0), .val (.int p1), .val (.int p2), .val (.int p3), .val (.int p4), .val (.int (1 : Int32)), .val (.int (0 : Int32)), .val (.int (3 : Int32)), .val (.int mn), .val (.int mx), .val (.double (9218868437227405312 : UInt64)), .second, .val (.double (18442240474082181120 : UInt64)), .second, .val (.ref b3), .val (.ref b4), .unset, .unset, .unset] [(.ref b4)])) _
    refine XS.iload X7.here hx rfl (hb hby at_77) rfl ?_
    show Steps p.tables e below (T7.setTop (mkF m 79 #[.val (.int p0), .val (.int p1), .val (.int p2), .val (.int p3), .val (.int p4), .val (.int (1 : Int32)), .val (.int (0 : Int32)), .val (.int (3 : Int32)), .val (.int mn), .val (.int mx), .val (.double (9218868437227405312 : UInt64)), .second, .val (.double (18442240474082181120 : UInt64)), .second, .val (.ref b3), .val (.ref b4), .unset, .unset, .unset] [(.int (1 : Int32)), (.ref b4)])) _
    refine XS.iload X7.here hx rfl (hb hby at_79) rfl ?_
    show Steps p.tables e below (T7.setTop (mkF m 81 #[.val (.int p0), .val (.int p1), .val (.int p2), .val (.int p3), .val (.int p4), .val (.int (1 : Int32)), .val (.int (0 : Int32)), .val (.int (3 : Int32)), .val (.int mn), .val (.int mx), .val (.double (9218868437227405312 : UInt64)), .second, .val (.double (18442240474082181120 : UInt64)), .second, .val (.ref b3), .val (.ref b4), .unset, .unset, .unset] [(.int (3 : Int32)), (.int (1 : Int32)), (.ref b4)])) _
    refine XS.iconst X7.here hx rfl (hb hby at_81) ?_
    show Steps p.tables e below (T7.setTop (mkF m 82 #[.val (.int p0), .val (.int p1), .val (.int p2), .val (.int p3), .val (.int p4), .val (.int (1 : Int32)), .val (.int (0 : Int32)), .val (.int (3 : Int32)), .val (.int mn), .val (.int mx), .val (.double (9218868437227405312 : UInt64)), .second, .val (.double (18442240474082181120 : UInt64)), .second, .val (.ref b3), .val (.ref b4), .unset, .unset, .unset] [(.int (1 : Int32)), (.int (3 : Int32)), (.int (1 : Int32)), (.ref b4)])) _
    refine XS.icmpNo X7.here hx rfl (hb hby at_82) rfl (feq (by decide : ¬ ((3 : Int32) = (1 : Int32)))).1 ?_
    show Steps p.tables e below (T7.setTop (mkF m 85 #[.val (.int p0), .val (.int p1), .val (.int p2), .val (.int p3), .val (.int p4), .val (.int (1 : Int32)), .val (.int (0 : Int32)), .val (.int (3 : Int32)), .val (.int mn), .val (.int mx), .val (.double (9218868437227405312 : UInt64)), .second, .val (.double (18442240474082181120 : UInt64)), .second, .val (.ref b3), .val (.ref b4), .unset, .unset, .unset] [(.int (1 : Int32)), (.ref b4)])) _
    refine XS.iload X7.here hx rfl (hb hby at_85) rfl ?_
    show Steps p.tables e below (T7.setTop (mkF m 87 #[.val (.int p0), .val (.int p1), .val (.int p2), .val (.int p3), .val (.int p4), .val (.int (1 : Int32)), .val (.int (0 : Int32)), .val (.int (3 : Int32)), .val (.int mn), .val (.int mx), .val (.double (9218868437227405312 : UInt64)), .second, .val (.double (18442240474082181120 : UInt64)), .second, .val (.ref b3), .val (.ref b4), .unset, .unset, .unset] [(.int (3 : Int32)), (.int (1 : Int32)), (.ref b4)])) _
    refine XS.iconst X7.here hx rfl (hb hby at_87) ?_
    show Steps p.tables e below (T7.setTop (mkF m 88 #[.val (.int p0), .val (.int p1), .val (.int p2), .val (.int p3), .val (.int p4), .val (.int (1 : Int32)), .val (.int (0 : Int32)), .val (.int (3 : Int32)), .val (.int mn), .val (.int mx), .val (.double (9218868437227405312 : UInt64)), .second, .val (.double (18442240474082181120 : UInt64)), .second, .val (.ref b3), .val (.ref b4), .unset, .unset, .unset] [(.int (2 : Int32)), (.int (3 : Int32)), (.int (1 : Int32)), (.ref b4)])) _
    refine XS.icmpYes X7.here hx rfl (pc0 := 88) (pc' := 96) rfl (hb hby at_88) rfl (feq (by decide : ¬ ((3 : Int32) = (2 : Int32)))).2 (by decide) (by decide) ?_
    show Steps p.tables e below (T7.setTop (mkF m 96 #[.val (.int p0), .val (.int p1), .val (.int p2), .val (.int p3), .val (.int p4), .val (.int (1 : Int32)), .val (.int (0 : Int32)), .val (.int (3 : Int32)), .val (.int mn), .val (.int mx), .val (.double (9218868437227405312 : UInt64)), .second, .val (.double (18442240474082181120 : UInt64)), .second, .val (.ref b3), .val (.ref b4), .unset, .unset, .unset] [(.int (1 : Int32)), (.ref b4)])) _
    refine XS.iload X7.here hx rfl (hb hby at_96) rfl ?_
    show Steps p.tables e below (T7.setTop (mkF m 98 #[.val (.int p0), .val (.int p1), .val (.int p2), .val (.int p3), .val (.int p4), .val (.int (1 : Int32)), .val (.int (0 : Int32)), .val (.int (3 : Int32)), .val (.int mn), .val (.int mx), .val (.double (9218868437227405312 : UInt64)), .second, .val (.double (18442240474082181120 : UInt64)), .second, .val (.ref b3), .val (.ref b4), .unset, .unset, .unset] [(.int mx), (.int (1 : Int32)), (.ref b4)])) _
    refine XS.i2dS X7.here hx rfl (hb hby at_98) rfl (v := (FP.i2d mx)) rfl ?_
    show Steps p.tables e below (T7.setTop (mkF m 99 #[.val (.int p0), .val (.int p1), .val (.int p2), .val (.int p3), .val (.int p4), .val (.int (1 : Int32)), .val (.int (0 : Int32)), .val (.int (3 : Int32)), .val (.int mn), .val (.int mx), .val (.double (9218868437227405312 : UInt64)), .second, .val (.double (18442240474082181120 : UInt64)), .second, .val (.ref b3), .val (.ref b4), .unset, .unset, .unset] [(.double (FP.i2d mx)), (.int (1 : Int32)), (.ref b4)])) _
    refine st11 _ ?_
    show Steps p.tables e below (T11.setTop (mkF m 100 #[.val (.int p0), .val (.int p1), .val (.int p2), .val (.int p3), .val (.int p4), .val (.int (1 : Int32)), .val (.int (0 : Int32)), .val (.int (3 : Int32)), .val (.int mn), .val (.int mx), .val (.double (9218868437227405312 : UInt64)), .second, .val (.double (18442240474082181120 : UInt64)), .second, .val (.ref b3), .val (.ref b4), .unset, .unset, .unset] [])) _
    refine XS.aload X11.here hx rfl (hb hby at_100) rfl rfl ?_
    show Steps p.tables e below (T11.setTop (mkF m 102 #[.val (.int p0), .val (.int p1), .val (.int p2), .val (.int p3), .val (.int p4), .val (.int (1 : Int32)), .val (.int (0 : Int32)), .val (.int (3 : Int32)), .val (.int mn), .val (.int mx), .val (.double (9218868437227405312 : UInt64)), .second, .val (.double (18442240474082181120 : UInt64)), .second, .val (.ref b3), .val (.ref b4), .unset, .unset, .unset] [(.ref b3)])) _
    refine XS.iload X11.here hx rfl (hb hby at_102) rfl ?_
    show Steps p.tables e below (T11.setTop (mkF m 104 #[.val (.int p0), .val (.int p1), .val (.int p2), .val (.int p3), .val (.int p4), .val (.int (1 : Int32)), .val (.int (0 : Int32)), .val (.int (3 : Int32)), .val (.int mn), .val (.int mx), .val (.double (9218868437227405312 : UInt64)), .second, .val (.double (18442240474082181120 : UInt64)), .second, .val (.ref b3), .val (.ref b4), .unset, .unset, .unset] [(.int (0 : Int32)), (.ref b3)])) _
    refine XS.iload X11.here hx rfl (hb hby at_104) rfl ?_
    show Steps p.tables e below (T11.setTop (mkF m 106 #[.val (.int p0), .val (.int p1), .val (.int p2), .val (.int p3), .val (.int p4), .val (.int (1 : Int32)), .val (.int (0 : Int32)), .val (.int (3 : Int32)), .val (.int mn), .val (.int mx), .val (.double (9218868437227405312 : UInt64)), .second, .val (.double (18442240474082181120 : UInt64)), .second, .val (.ref b3), .val (.ref b4), .unset, .unset, .unset] [(.int p4), (.int (0 : Int32)), (.ref b3)])) _
    refine XS.i2dS X11.here hx rfl (hb hby at_106) rfl (v := (FP.i2d p4)) rfl ?_
    show Steps p.tables e below (T11.setTop (mkF m 107 #[.val (.int p0), .val (.int p1), .val (.int p2), .val (.int p3), .val (.int p4), .val (.int (1 : Int32)), .val (.int (0 : Int32)), .val (.int (3 : Int32)), .val (.int mn), .val (.int mx), .val (.double (9218868437227405312 : UInt64)), .second, .val (.double (18442240474082181120 : UInt64)), .second, .val (.ref b3), .val (.ref b4), .unset, .unset, .unset] [(.double (FP.i2d p4)), (.int (0 : Int32)), (.ref b3)])) _
    refine st15 _ ?_
    show Steps p.tables e below (T15.setTop (mkF m 108 #[.val (.int p0), .val (.int p1), .val (.int p2), .val (.int p3), .val (.int p4), .val (.int (1 : Int32)), .val (.int (0 : Int32)), .val (.int (3 : Int32)), .val (.int mn), .val (.int mx), .val (.double (9218868437227405312 : UInt64)), .second, .val (.double (18442240474082181120 : UInt64)), .second, .val (.ref b3), .val (.ref b4), .unset, .unset, .unset] [])) _
    refine XS.aload X15.here hx rfl (hb hby at_108) rfl rfl ?_
    show Steps p.tables e below (T15.setTop (mkF m 110 #[.val (.int p0), .val (.int p1), .val (.int p2), .val (.int p3), .val (.int p4), .val (.int (1 : Int32)), .val (.int (0 : Int32)), .val (.int (3 : Int32)), .val (.int mn), .val (.int mx), .val (.double (9218868437227405312 : UInt64)), .second, .val (.double (18442240474082181120 : UInt64)), .second, .val (.ref b3), .val (.ref b4), .unset, .unset, .unset] [(.ref b4)])) _
    refine XS.iload X15.here hx rfl (hb hby at_110) rfl ?_
    show Steps p.tables e below (T15.setTop (mkF m 112 #[.val (.int p0), .val (.int p1), .val (.int p2), .val (.int p3), .val (.int p4), .val (.int (1 : Int32)), .val (.int (0 : Int32)), .val (.int (3 : Int32)), .val (.int mn), .val (.int mx), .val (.double (9218868437227405312 : UInt64)), .second, .val (.double (18442240474082181120 : UInt64)), .second, .val (.ref b3), .val (.ref b4), .unset, .unset, .unset] [(.int (0 : Int32)), (.ref b4)])) _
    refine XS.iloadN X15.here hx rfl (hb hby at_112) rfl ?_
    show Steps p.tables e below (T15.setTop (mkF m 113 #[.val (.int p0), .val (.int p1), .val (.int p2), .val (.int p3), .val (.int p4), .val (.int (1 : Int32)), .val (.int (0 : Int32)), .val (.int (3 : Int32)), .val (.int mn), .val (.int mx), .val (.double (9218868437227405312 : UInt64)), .second, .val (.double (18442240474082181120 : UInt64)), .second, .val (.ref b3), .val (.ref b4), .unset, .unset, .unset] [(.int p2), (.int (0 : Int32)), (.ref b4)])) _
    refine XS.iconst X15.here hx rfl (hb hby at_113) ?_
    show Steps p.tables e below (T15.setTop (mkF m 114 #[.val (.int p0), .val (.int p1), .val (.int p2), .val (.int p3), .val (.int p4), .val (.int (1 : Int32)), .val (.int (0 : Int32)), .val (.int (3 : Int32)), .val (.int mn), .val (.int mx), .val (.double (9218868437227405312 : UInt64)), .second, .val (.double (18442240474082181120 : UInt64)), .second, .val (.ref b3), .val (.ref b4), .unset, .unset, .unset] [(.int (2 : Int32)), (.int p2), (.int (0 : Int32)), (.ref b4)])) _
    refine XS.ishr X15.here hx rfl (hb hby at_114) rfl ?_
    show Steps p.tables e below (T15.setTop (mkF m 115 #[.val (.int p0), .val (.int p1), .val (.int p2), .val (.int p3), .val (.int p4), .val (.int (1 : Int32)), .val (.int (0 : Int32)), .val (.int (3 : Int32)), .val (.int mn), .val (.int mx), .val (.double (9218868437227405312 : UInt64)), .second, .val (.double (18442240474082181120 : UInt64)), .second, .val (.ref b3), .val (.ref b4), .unset, .unset, .unset] [(.int (p2 >>> ((2 : Int32) &&& 31))), (.int (0 : Int32)), (.ref b4)])) _
    refine XS.iconst X15.here hx rfl (hb hby at_115) ?_
    show Steps p.tables e below (T15.setTop (mkF m 116 #[.val (.int p0), .val (.int p1), .val (.int p2), .val (.int p3), .val (.int p4), .val (.int (1 : Int32)), .val (.int (0 : Int32)), .val (.int (3 : Int32)), .val (.int mn), .val (.int mx), .val (.double (9218868437227405312 : UInt64)), .second, .val (.double (18442240474082181120 : UInt64)), .second, .val (.ref b3), .val (.ref b4), .unset, .unset, .unset] [(.int (1 : Int32)), (.int (p2 >>> ((2 : Int32) &&& 31))), (.int (0 : Int32)), (.ref b4)])) _
    refine XS.iand X15.here hx rfl (hb hby at_116) rfl ?_
    show Steps p.tables e below (T15.setTop (mkF m 117 #[.val (.int p0), .val (.int p1), .val (.int p2), .val (.int p3), .val (.int p4), .val (.int (1 : Int32)), .val (.int (0 : Int32)), .val (.int (3 : Int32)), .val (.int mn), .val (.int mx), .val (.double (9218868437227405312 : UInt64)), .second, .val (.double (18442240474082181120 : UInt64)), .second, .val (.ref b3), .val (.ref b4), .unset, .unset, .unset] [(.int ((p2 >>> ((2 : Int32) &&& 31)) &&& (1 : Int32))), (.int (0 : Int32)), (.ref b4)])) _
    refine jn18 _ ?_
    show Steps p.tables e below (T15.setTop (mkF m 128 #[.val (.int p0), .val (.int p1), .val (.int p2), .val (.int p3), .val (.int p4), .val (.int (1 : Int32)), .val (.int (0 : Int32)), .val (.int (3 : Int32)), .val (.int mn), .val (.int mx), .val (.double (9218868437227405312 : UInt64)), .second, .val (.double (18442240474082181120 : UInt64)), .second, .val (.ref b3), .val (.ref b4), .unset, .unset, .unset] [(.double ub), (.int (0 : Int32)), (.ref b4)])) _
    refine st20 _ ?_
    show Steps p.tables e below (T20.setTop (mkF m 129 #[.val (.int p0), .val (.int p1), .val (.int p2), .val (.int p3), .val (.int p4), .val (.int (1 : Int32)), .val (.int (0 : Int32)), .val (.int (3 : Int32)), .val (.int mn), .val (.int mx), .val (.double (9218868437227405312 : UInt64)), .second, .val (.double (18442240474082181120 : UInt64)), .second, .val (.ref b3), .val (.ref b4), .unset, .unset, .unset] [])) _
    refine st23 _ ?_
    show Steps p.tables e below (T23.setTop (mkF m 132 #[.val (.int p0), .val (.int p1), .val (.int p2), .val (.int p3), .val (.int p4), .val (.int (1 : Int32)), .val (.int (0 : Int32)), .val (.int (3 : Int32)), .val (.int mn), .val (.int mx), .val (.double (9218868437227405312 : UInt64)), .second, .val (.double (18442240474082181120 : UInt64)), .second, .val (.ref b3), .val (.ref b4), .unset, .unset, .unset] [(.ref b23)])) _
    refine XS.dup X23.here hx rfl (hb hby at_132) rfl rfl ?_
    show Steps p.tables e below (T23.setTop (mkF m 133 #[.val (.int p0), .val (.int p1), .val (.int p2), .val (.int p3), .val (.int p4), .val (.int (1 : Int32)), .val (.int (0 : Int32)), .val (.int (3 : Int32)), .val (.int mn), .val (.int mx), .val (.double (9218868437227405312 : UInt64)), .second, .val (.double (18442240474082181120 : UInt64)), .second, .val (.ref b3), .val (.ref b4), .unset, .unset, .unset] [(.ref b23), (.ref b23)])) _
    refine XS.aload X23.here hx rfl (hb hby at_133) rfl rfl ?_
    show Steps p.tables e below (T23.setTop (mkF m 135 #[.val (.int p0), .val (.int p1), .val (.int p2), .val (.int p3), .val (.int p4), .val (.int (1 : Int32)), .val (.int (0 : Int32)), .val (.int (3 : Int32)), .val (.int mn), .val (.int mx), .val (.double (9218868437227405312 : UInt64)), .second, .val (.double (18442240474082181120 : UInt64)), .second, .val (.ref b3), .val (.ref b4), .unset, .unset, .unset] [(.ref b3), (.ref b23), (.ref b23)])) _
    refine XS.aload X23.here hx rfl (hb hby at_135) rfl rfl ?_
    show Steps p.tables e below (T23.setTop (mkF m 137 #[.val (.int p0), .val (.int p1), .val (.int p2), .val (.int p3), .val (.int p4), .val (.int (1 : Int32)), .val (.int (0 : Int32)), .val (.int (3 : Int32)), .val (.int mn), .val (.int mx), .val (.double (9218868437227405312 : UInt64)), .second, .val (.double (18442240474082181120 : UInt64)), .second, .val (.ref b3), .val (.ref b4), .unset, .unset, .unset] [(.ref b4), (.ref b3), (.ref b23), (.ref b23)])) _
    refine XS.iconst X23.here hx rfl (hb hby at_137) ?_
    show Steps p.tables e below (T23.setTop (mkF m 138 #[.val (.int p0), .val (.int p1), .val (.int p2), .val (.int p3), .val (.int p4), .val (.int (1 : Int32)), .val (.int (0 : Int32)), .val (.int (3 : Int32)), .val (.int mn), .val (.int mx), .val (.double (9218868437227405312 : UInt64)), .second, .val (.double (18442240474082181120 : UInt64)), .second, .val (.ref b3), .val (.ref b4), .unset, .unset, .unset] [(.int (2 : Int32)), (.ref b4), (.ref b3), (.ref b23), (.ref b23)])) _
    refine st26 _ ?_
    show Steps p.tables e below (T26.setTop (mkF m 140 #[.val (.int p0), .val (.int p1), .val (.int p2), .val (.int p3), .val (.int p4), .val (.int (1 : Int32)), .val (.int (0 : Int32)), .val (.int (3 : Int32)), .val (.int mn), .val (.int mx), .val (.double (9218868437227405312 : UInt64)), .second, .val (.double (18442240474082181120 : UInt64)), .second, .val (.ref b3), .val (.ref b4), .unset, .unset, .unset] [(.ref b26), (.ref b4), (.ref b3), (.ref b23), (.ref b23)])) _
    refine XS.dup X26.here hx rfl (hb hby at_140) rfl rfl ?_
    show Steps p.tables e below (T26.setTop (mkF m 141 #[.val (.int p0), .val (.int p1), .val (.int p2), .val (.int p3), .val (.int p4), .val (.int (1 : Int32)), .val (.int (0 : Int32)), .val (.int (3 : Int32)), .val (.int mn), .val (.int mx), .val (.double (9218868437227405312 : UInt64)), .second, .val (.double (18442240474082181120 : UInt64)), .second, .val (.ref b3), .val (.ref b4), .unset, .unset, .unset] [(.ref b26), (.ref b26), (.ref b4), (.ref b3), (.ref b23), (.ref b23)])) _
    refine XS.iconst X26.here hx rfl (hb hby at_141) ?_
    show Steps p.tables e below (T26.setTop (mkF m 142 #[.val (.int p0), .val (.int p1), .val (.int p2), .val (.int p3), .val (.int p4), .val (.int (1 : Int32)), .val (.int (0 : Int32)), .val (.int (3 : Int32)), .val (.int mn), .val (.int mx), .val (.double (9218868437227405312 : UInt64)), .second, .val (.double (18442240474082181120 : UInt64)), .second, .val (.ref b3), .val (.ref b4), .unset, .unset, .unset] [(.int (0 : Int32)), (.ref b26), (.ref b26), (.ref b4), (.ref b3), (.ref b23), (.ref b23)])) _
    refine XS.iconst X26.here hx rfl (hb hby at_142) ?_
    show Steps p.tables e below (T26.setTop (mkF m 143 #[.val (.int p0), .val (.int p1), .val (.int p2), .val (.int p3), .val (.int p4), .val (.int (1 : Int32)), .val (.int (0 : Int32)), .val (.int (3 : Int32)), .val (.int mn), .val (.int mx), .val (.double (9218868437227405312 : UInt64)), .second, .val (.double (18442240474082181120 : UInt64)), .second, .val (.ref b3), .val (.ref b4), .unset, .unset, .unset] [(.int (-1 : Int32)), (.int (0 : Int32)), (.ref b26), (.ref b26), (.ref b4), (.ref b3), (.ref b23), (.ref b23)])) _
    refine st34 _ ?_
    show Steps p.tables e below (T34.setTop (mkF m 144 #[.val (.int p0), .val (.int p1), .val (.int p2), .val (.int p3), .val (.int p4), .val (.int (1 : Int32)), .val (.int (0 : Int32)), .val (.int (3 : Int32)), .val (.int mn), .val (.int mx), .val (.double (9218868437227405312 : UInt64)), .second, .val (.double (18442240474082181120 : UInt64)), .second, .val (.ref b3), .val (.ref b4), .unset, .unset, .unset] [(.ref b26), (.ref b4), (.ref b3), (.ref b23), (.ref b23)])) _
    refine XS.dup X34.here hx rfl (hb hby at_144) rfl rfl ?_
    show Steps p.tables e below (T34.setTop (mkF m 145 #[.val (.int p0), .val (.int p1), .val (.int p2), .val (.int p3), .val (.int p4), .val (.int (1 : Int32)), .val (.int (0 : Int32)), .val (.int (3 : Int32)), .val (.int mn), .val (.int mx), .val (.double (9218868437227405312 : UInt64)), .second, .val (.double (18442240474082181120 : UInt64)), .second, .val (.ref b3), .val (.ref b4), .unset, .unset, .unset] [(.ref b26), (.ref b26), (.ref b4), (.ref b3), (.ref b23), (.ref b23)])) _
    refine XS.iconst X34.here hx rfl (hb hby at_145) ?_
    show Steps p.tables e below (T34.setTop (mkF m 146 #[.val (.int p0), .val (.int p1), .val (.int p2), .val (.int p3), .val (.int p4), .val (.int (1 : Int32)), .val (.int (0 : Int32)), .val (.int (3 : Int32)), .val (.int mn), .val (.int mx), .val (.double (9218868437227405312 : UInt64)), .second, .val (.double (18442240474082181120 : UInt64)), .second, .val (.ref b3), .val (.ref b4), .unset, .unset, .unset] [(.int (1 : Int32)), (.ref b26), (.ref b26), (.ref b4), (.ref b3), (.ref b23), (.ref b23)])) _
    refine XS.iconst X34.here hx rfl (hb hby at_146) ?_
    show Steps p.tables e below (T34.setTop (mkF m 147 #[.val (.int p0), .val (.int p1), .val (.int p2), .val (.int p3), .val (.int p4), .val (.int (1 : Int32)), .val (.int (0 : Int32)), .val (.int (3 : Int32)), .val (.int mn), .val (.int mx), .val (.double (9218868437227405312 : UInt64)), .second, .val (.double (18442240474082181120 : UInt64)), .second, .val (.ref b3), .val (.ref b4), .unset, .unset, .unset] [(.int (-1 : Int32)), (.int (1 : Int32)), (.ref b26), (.ref b26), (.ref b4), (.ref b3), (.ref b23), (.ref b23)])) _
    refine st44 _ ?_
    show Steps p.tables e below (T44.setTop (mkF m 148 #[.val (.int p0), .val (.int p1), .val (.int p2), .val (.int p3), .val (.int p4), .val (.int (1 : Int32)), .val (.int (0 : Int32)), .val (.int (3 : Int32)), .val (.int mn), .val (.int mx), .val (.double (9218868437227405312 : UInt64)), .second, .val (.double (18442240474082181120 : UInt64)), .second, .val (.ref b3), .val (.ref b4), .unset, .unset, .unset] [(.ref b26), (.ref b4), (.ref b3), (.ref b23), (.ref b23)])) _
    refine st53.trans ?_
    show Steps p.tables e below (T53.setTop (mkF m 151 #[.val (.int p0), .val (.int p1), .val (.int p2), .val (.int p3), .val (.int p4), .val (.int (1 : Int32)), .val (.int (0 : Int32)), .val (.int (3 : Int32)), .val (.int mn), .val (.int mx), .val (.double (9218868437227405312 : UInt64)), .second, .val (.double (18442240474082181120 : UInt64)), .second, .val (.ref b3), .val (.ref b4), .unset, .unset, .unset] [(.ref b23)])) _
    refine XS.astore X53.here hx rfl (hb hby at_151) rfl rfl (l' := #[.val (.int p0), .val (.int p1), .val (.int p2), .val (.int p3), .val (.int p4), .val (.int (1 : Int32)), .val (.int (0 : Int32)), .val (.int (3 : Int32)), .val (.int mn), .val (.int mx), .val (.double (9218868437227405312 : UInt64)), .second, .val (.double (18442240474082181120 : UInt64)), .second, .val (.ref b3), .val (.ref b4), .val (.ref b23), .unset, .unset]) rfl ?_
    show Steps p.tables e below (T53.setTop (mkF m 153 #[.val (.int p0), .val (.int p1), .val (.int p2), .val (.int p3), .val (.int p4), .val (.int (1 : Int32)), .val (.int (0 : Int32)), .val (.int (3 : Int32)), .val (.int mn), .val (.int mx), .val (.double (9218868437227405312 : UInt64)), .second, .val (.double (18442240474082181120 : UInt64)), .second, .val (.ref b3), .val (.ref b4), .val (.ref b23), .unset, .unset] [])) _
    refine XS.aload X53.here hx rfl (hb hby at_153) rfl rfl ?_
    show Steps p.tables e below (T53.setTop (mkF m 155 #[.val (.int p0), .val (.int p1), .val (.int p2), .val (.int p3), .val (.int p4), .val (.int (1 : Int32)), .val (.int (0 : Int32)), .val (.int (3 : Int32)), .val (.int mn), .val (.int mx), .val (.double (9218868437227405312 : UInt64)), .second, .val (.double (18442240474082181120 : UInt64)), .second, .val (.ref b3), .val (.ref b4), .val (.ref b23), .unset, .unset] [(.ref b23)])) _
    refine XS.iload X53.here hx rfl (hb hby at_155) rfl ?_
    show Steps p.tables e below (T53.setTop (mkF m 157 #[.val (.int p0), .val (.int p1), .val (.int p2), .val (.int p3), .val (.int p4), .val (.int (1 : Int32)), .val (.int (0 : Int32)), .val (.int (3 : Int32)), .val (.int mn), .val (.int mx), .val (.double (9218868437227405312 : UInt64)), .second, .val (.double (18442240474082181120 : UInt64)), .second, .val (.ref b3), .val (.ref b4), .val (.ref b23), .unset, .unset] [(.int (1 : Int32)), (.ref b23)])) _
    refine st62.trans ?_
    show Steps p.tables e below (T62.setTop (mkF m 160 #[.val (.int p0), .val (.int p1), .val (.int p2), .val (.int p3), .val (.int p4), .val (.int (1 : Int32)), .val (.int (0 : Int32)), .val (.int (3 : Int32)), .val (.int mn), .val (.int mx), .val (.double (9218868437227405312 : UInt64)), .second, .val (.double (18442240474082181120 : UInt64)), .second, .val (.ref b3), .val (.ref b4), .val (.ref b23), .unset, .unset] [(.double (FP.ddiv (FP.dadd (18442240474082181120 : UInt64) (FP.i2d mx)) (4611686018427387904 : UInt64)))])) _
    refine XS.dstore X62.here hx rfl (hb hby at_160) rfl (l' := #[.val (.int p0), .val (.int p1), .val (.int p2), .val (.int p3), .val (.int p4), .val (.int (1 : Int32)), .val (.int (0 : Int32)), .val (.int (3 : Int32)), .val (.int mn), .val (.int mx), .val (.double (9218868437227405312 : UInt64)), .second, .val (.double (18442240474082181120 : UInt64)), .second, .val (.ref b3), .val (.ref b4), .val (.ref b23), .val (.double (FP.ddiv (FP.dadd (18442240474082181120 : UInt64) (FP.i2d mx)) (4611686018427387904 : UInt64))), .second]) rfl ?_
    show Steps p.tables e below (T62.setTop (mkF m 162 #[.val (.int p0), .val (.int p1), .val (.int p2), .val (.int p3), .val (.int p4), .val (.int (1 : Int32)), .val (.int (0 : Int32)), .val (.int (3 : Int32)), .val (.int mn), .val (.int mx), .val (.double (9218868437227405312 : UInt64)), .second, .val (.double (18442240474082181120 : UInt64)), .second, .val (.ref b3), .val (.ref b4), .val (.ref b23), .val (.double (FP.ddiv (FP.dadd (18442240474082181120 : UInt64) (FP.i2d mx)) (4611686018427387904 : UInt64))), .second] [])) _
    refine XS.iload X62.here hx rfl (hb hby at_162) rfl ?_
    show Steps p.tables e below (T62.setTop (mkF m 164 #[.val (.int p0), .val (.int p1), .val (.int p2), .val (.int p3), .val (.int p4), .val (.int (1 : Int32)), .val (.int (0 : Int32)), .val (.int (3 : Int32)), .val (.int mn), .val (.int mx), .val (.double (9218868437227405312 : UInt64)), .second, .val (.double (18442240474082181120 : UInt64)), .second, .val (.ref b3), .val (.ref b4), .val (.ref b23), .val (.double (FP.ddiv (FP.dadd (18442240474082181120 : UInt64) (FP.i2d mx)) (4611686018427387904 : UInt64))), .second] [(.int (3 : Int32))])) _
    refine XS.ifYes X62.here hx rfl (pc0 := 164) (pc' := 191) rfl (hb hby at_164) rfl ((if0 _ _).trans (feq (by decide : ¬ ((3 : Int32) = (0 : Int32)))).2) (by decide) (by decide) ?_
    show Steps p.tables e below (T62.setTop (mkF m 191 #[.val (.int p0), .val (.int p1), .val (.int p2), .val (.int p3), .val (.int p4), .val (.int (1 : Int32)), .val (.int (0 : Int32)), .val (.int (3 : Int32)), .val (.int mn), .val (.int mx), .val (.double (9218868437227405312 : UInt64)), .second, .val (.double (18442240474082181120 : UInt64)), .second, .val (.ref b3), .val (.ref b4), .val (.ref b23), .val (.double (FP.ddiv (FP.dadd (18442240474082181120 : UInt64) (FP.i2d mx)) (4611686018427387904 : UInt64))), .second] [])) _
    refine XS.iload X62.here hx rfl (hb hby at_191) rfl ?_
    show Steps p.tables e below (T62.setTop (mkF m 193 #[.val (.int p0), .val (.int p1), .val (.int p2), .val (.int p3), .val (.int p4), .val (.int (1 : Int32)), .val (.int (0 : Int32)), .val (.int (3 : Int32)), .val (.int mn), .val (.int mx), .val (.double (9218868437227405312 : UInt64)), .second, .val (.double (18442240474082181120 : UInt64)), .second, .val (.ref b3), .val (.ref b4), .val (.ref b23), .val (.double (FP.ddiv (FP.dadd (18442240474082181120 : UInt64) (FP.i2d mx)) (4611686018427387904 : UInt64))), .second] [(.int (3 : Int32))])) _
    refine XS.iconst X62.here hx rfl (hb hby at_193) ?_
    show Steps p.tables e below (T62.setTop (mkF m 194 #[.val (.int p0), .val (.int p1), .val (.int p2), .val (.int p3), .val (.int p4), .val (.int (1 : Int32)), .val (.int (0 : Int32)), .val (.int (3 : Int32)), .val (.int mn), .val (.int mx), .val (.double (9218868437227405312 : UInt64)), .second, .val (.double (18442240474082181120 : UInt64)), .second, .val (.ref b3), .val (.ref b4), .val (.ref b23), .val (.double (FP.ddiv (FP.dadd (18442240474082181120 : UInt64) (FP.i2d mx)) (4611686018427387904 : UInt64))), .second] [(.int (1 : Int32)), (.int (3 : Int32))])) _
    refine XS.icmpYes X62.here hx rfl (pc0 := 194) (pc' := 212) rfl (hb hby at_194) rfl (feq (by decide : ¬ ((3 : Int32) = (1 : Int32)))).2 (by decide) (by decide) ?_
    show Steps p.tables e below (T62.setTop (mkF m 212 #[.val (.int p0), .val (.int p1), .val (.int p2), .val (.int p3), .val (.int p4), .val (.int (1 : Int32)), .val (.int (0 : Int32)), .val (.int (3 : Int32)), .val (.int mn), .val (.int mx), .val (.double (9218868437227405312 : UInt64)), .second, .val (.double (18442240474082181120 : UInt64)), .second, .val (.ref b3), .val (.ref b4), .val (.ref b23), .val (.double (FP.ddiv (FP.dadd (18442240474082181120 : UInt64) (FP.i2d mx)) (4611686018427387904 : UInt64))), .second] [])) _
    refine XS.dload X62.here hx rfl (hb hby at_212) rfl ?_
    show Steps p.tables e below (T62.setTop (mkF m 214 #[.val (.int p0), .val (.int p1), .val (.int p2), .val (.int p3), .val (.int p4), .val (.int (1 : Int32)), .val (.int (0 : Int32)), .val (.int (3 : Int32)), .val (.int mn), .val (.int mx), .val (.double (9218868437227405312 : UInt64)), .second, .val (.double (18442240474082181120 : UInt64)), .second, .val (.ref b3), .val (.ref b4), .val (.ref b23), .val (.double (FP.ddiv (FP.dadd (18442240474082181120 : UInt64) (FP.i2d mx)) (4611686018427387904 : UInt64))), .second] [(.double (FP.ddiv (FP.dadd (18442240474082181120 : UInt64) (FP.i2d mx)) (4611686018427387904 : UInt64)))])) _
    refine XS.dload X62.here hx rfl (hb hby at_214) rfl ?_
    show Steps p.tables e below (T62.setTop (mkF m 216 #[.val (.int p0), .val (.int p1), .val (.int p2), .val (.int p3), .val (.int p4), .val (.int (1 : Int32)), .val (.int (0 : Int32)), .val (.int (3 : Int32)), .val (.int mn), .val (.int mx), .val (.double (9218868437227405312 : UInt64)), .second, .val (.double (18442240474082181120 : UInt64)), .second, .val (.ref b3), .val (.ref b4), .val (.ref b23), .val (.double (FP.ddiv (FP.dadd (18442240474082181120 : UInt64) (FP.i2d mx)) (4611686018427387904 : UInt64))), .second] [(.double (18442240474082181120 : UInt64)), (.double (FP.ddiv (FP.dadd (18442240474082181120 : UInt64) (FP.i2d mx)) (4611686018427387904 : UInt64)))])) _
    refine XS.dcmpS X62.here hx rfl (hb hby at_216) rfl (v := (0 : Int32)) hd216 ?_
    show Steps p.tables e below (T62.setTop (mkF m 217 #[.val (.int p0), .val (.int p1), .val (.int p2), .val (.int p3), .val (.int p4), .val (.int (1 : Int32)), .val (.int (0 : Int32)), .val (.int (3 : Int32)), .val (.int mn), .val (.int mx), .val (.double (9218868437227405312 : UInt64)), .second, .val (.double (18442240474082181120 : UInt64)), .second, .val (.ref b3), .val (.ref b4), .val (.ref b23), .val (.double (FP.ddiv (FP.dadd (18442240474082181120 : UInt64) (FP.i2d mx)) (4611686018427387904 : UInt64))), .second] [(.int (0 : Int32))])) _
    refine XS.ifNo X62.here hx rfl (hb hby at_217) rfl ((if0 _ _).trans (teq (by decide : (0 : Int32) = (0 : Int32))).2) ?_
    show Steps p.tables e below (T62.setTop (mkF m 220 #[.val (.int p0), .val (.int p1), .val (.int p2), .val (.int p3), .val (.int p4), .val (.int (1 : Int32)), .val (.int (0 : Int32)), .val (.int (3 : Int32)), .val (.int mn), .val (.int mx), .val (.double (9218868437227405312 : UInt64)), .second, .val (.double (18442240474082181120 : UInt64)), .second, .val (.ref b3), .val (.ref b4), .val (.ref b23), .val (.double (FP.ddiv (FP.dadd (18442240474082181120 : UInt64) (FP.i2d mx)) (4611686018427387904 : UInt64))), .second] [])) _
    refine XS.iconst X62.here hx rfl (hb hby at_220) ?_
    show Steps p.tables e below (T62.setTop (mkF m 221 #[.val (.int p0), .val (.int p1), .val (.int p2), .val (.int p3), .val (.int p4), .val (.int (1 : Int32)), .val (.int (0 : Int32)), .val (.int (3 : Int32)), .val (.int mn), .val (.int mx), .val (.double (9218868437227405312 : UInt64)), .second, .val (.double (18442240474082181120 : UInt64)), .second, .val (.ref b3), .val (.ref b4), .val (.ref b23), .val (.double (FP.ddiv (FP.dadd (18442240474082181120 : UInt64) (FP.i2d mx)) (4611686018427387904 : UInt64))), .second] [(.int (1 : Int32))])) _
    refine XS.goto X62.here hx rfl (pc0 := 221) (pc' := 225) rfl (hb hby at_221) (by decide) (by decide) ?_
    show Steps p.tables e below (T62.setTop (mkF m 225 #[.val (.int p0), .val (.int p1), .val (.int p2), .val (.int p3), .val (.int p4), .val (.int (1 : Int32)), .val (.int (0 : Int32)), .val (.int (3 : Int32)), .val (.int mn), .val (.int mx), .val (.double (9218868437227405312 : UInt64)), .second, .val (.double (18442240474082181120 : UInt64)), .second, .val (.ref b3), .val (.ref b4), .val (.ref b23), .val (.double (FP.ddiv (FP.dadd (18442240474082181120 : UInt64) (FP.i2d mx)) (4611686018427387904 : UInt64))), .second] [(.int (1 : Int32))])) _
    exact retN X62 hx (t := .boolean) Bd.returns (by simp) (hb hby at_225) hr
  · show Q0 n0 _ T62.heap _
    rw [e62]
    exact ⟨rfl, N62⟩
open Jvm.FP.Core in
theorem own_ninf {x : UInt64} (hx : DFin x) : FP.dadd (18442240474082181120 : UInt64) x = (18442240474082181120 : UInt64) := by
  obtain ⟨s, c, q, ex⟩ := hx
  have e : val64 (18442240474082181120 : UInt64) = .inf true := by decide +kernel
  have k : val64 (FP.dadd (18442240474082181120 : UInt64) x) = .inf true := by
    show val64 (Jvm.FP.Core.dadd (18442240474082181120 : UInt64) x) = .inf true
    rw [val64_dadd, e, ex]; rfl
  exact val64_inj (by rw [k]; exact Datum.noConfusion) (k.trans e.symm)
theorem own_ninf2 : FP.ddiv (18442240474082181120 : UInt64) (4611686018427387904 : UInt64) = (18442240474082181120 : UInt64) := by decide +kernel
theorem own_bit (p : Int32) : (p &&& (1 : Int32)) = (0 : Int32) ∨ (p &&& (1 : Int32)) = (1 : Int32) := by
  have a := c_and p (1 : Int32) (by decide)
  rw [show (1 : Int32).toInt = 1 by decide] at a
  have : (p &&& (1 : Int32)).toInt = 0 ∨ (p &&& (1 : Int32)).toInt = 1 := by omega
  rcases this with h | h
  · exact Or.inl (Int32.toInt_inj.mp (by rw [h]; decide))
  · exact Or.inr (Int32.toInt_inj.mp (by rw [h]; decide))
theorem own_four (p : Int32) : (p &&& (3 : Int32)) = (0 : Int32) ∨ (p &&& (3 : Int32)) = (1 : Int32) ∨ (p &&& (3 : Int32)) = (2 : Int32) ∨ (p &&& (3 : Int32)) = (3 : Int32) := by
  have a := c_and p (3 : Int32) (by decide)
  rw [show (3 : Int32).toInt = 3 by decide] at a
  have : (p &&& (3 : Int32)).toInt = 0 ∨ (p &&& (3 : Int32)).toInt = 1 ∨ (p &&& (3 : Int32)).toInt = 2 ∨ (p &&& (3 : Int32)).toInt = 3 := by omega
  rcases this with h | h | h | h
  · exact Or.inl (Int32.toInt_inj.mp (by rw [h]; decide))
  · exact Or.inr (Or.inl (Int32.toInt_inj.mp (by rw [h]; decide)))
  · exact Or.inr (Or.inr (Or.inl (Int32.toInt_inj.mp (by rw [h]; decide))))
  · exact Or.inr (Or.inr (Or.inr (Int32.toInt_inj.mp (by rw [h]; decide))))
theorem own_law (l : Launch) (Z : State) (a0 : Array Value) (hw : ∀ d ∈ tables_1, d.before a0 Z = true) (ws : List Jvm.Cond) (p0 : Int32) (p1 : Int32) (p2 : Int32) (p3 : Int32) (p4 : Int32) (h0 : Heap) (n0 : Nat) (Z0 : n0 ≤ h0.size) :
    MetFree l x (head1 (Jvm.Cond.code x code maxLocals ret :: ws) room_1) (fun a U => a = #[(.int p0), (.int p1), (.int p2), (.int p3), (.int p4)] ∧ Z.Warmed39 U.vm ∧ U.heap = h0) (fun _ _ _ _ _ => True) (fun _ U o U' => ∃ v L, o = .returned v ∧ Q0 n0 v U'.heap L ∧ FrameEnd U o U' L room_1.cells room_1.slots) := by
  obtain ⟨mn, emn⟩ : ∃ z, (if p1 < p0 then p1 else p0) = z := ⟨_, rfl⟩
  obtain ⟨mx, emx⟩ : ∃ z, (if p0 < p1 then p1 else p0) = z := ⟨_, rfl⟩
  obtain ⟨ub, ehb⟩ : ∃ z, (if ((p2 >>> ((2 : Int32) &&& 31)) &&& (1 : Int32)) = (0 : Int32) then (FP.i2d p4) else (9218868437227405312 : UInt64)) = z := ⟨_, rfl⟩
  have rn := Jvm.OwnFP.Ra.i2d mn
  have rx := Jvm.OwnFP.Ra.i2d mx
  have r1 := rng32 mn
  have r2 := rng32 mx
  have rs : Jvm.OwnFP.Ra (mn.toInt + mx.toInt) 1 (FP.dadd (FP.i2d mn) (FP.i2d mx)) := Jvm.OwnFP.Ra.add (k := 0) rn rx (by omega) rfl (by decide)
  have rh : Jvm.OwnFP.Ra (mn.toInt + mx.toInt) 2 (FP.ddiv (FP.dadd (FP.i2d mn) (FP.i2d mx)) (4611686018427387904 : UInt64)) := Jvm.OwnFP.Ra.div (k := 1) rs Jvm.OwnFP.ra_two (by decide) (by decide) (by decide) (by omega) (by decide) (by decide) (by omega)
  have rd : Jvm.OwnFP.Ra (mn.toInt + mx.toInt) 1 (FP.dmul (FP.ddiv (FP.dadd (FP.i2d mn) (FP.i2d mx)) (4611686018427387904 : UInt64)) (4611686018427387904 : UInt64)) := Jvm.OwnFP.Ra.mulr (k := 0) rh Jvm.OwnFP.ra_two (by decide) (by decide) (by omega) rfl (by decide) (by omega)
  have kl : (mn.toInt64 + mx.toInt64).toInt = mn.toInt + mx.toInt := Jvm.OwnFP.ladd_of (c_i2l _) (c_i2l _) (by omega) (by omega)
  have rl : Jvm.OwnFP.Ra (mn.toInt + mx.toInt) 1 (FP.l2d (mn.toInt64 + mx.toInt64)) := (Jvm.OwnFP.Ra.l2d (by rw [kl]; omega)).same kl
  have ni : FP.dadd (18442240474082181120 : UInt64) (FP.i2d mx) = (18442240474082181120 : UInt64) := own_ninf rx.1
  have nn0 : Jvm.Free.Fl.NoNaN64 (18442240474082181120 : UInt64) := by unfold Jvm.Free.Fl.NoNaN64; decide
  have nni : Jvm.Free.Fl.NoNaN64 (9218868437227405312 : UInt64) := by unfold Jvm.Free.Fl.NoNaN64; decide
  have cn := Jvm.RoadKit.dcmpV_self nn0 .l
  have ci := Jvm.RoadKit.dcmpV_self nni .l
  have cx := Jvm.RoadKit.dcmp_pinf rx.fin .l
  have n3 : Jvm.Free.Fl.NoNaN64 (FP.ddiv (FP.dadd (18442240474082181120 : UInt64) (FP.i2d mx)) (4611686018427387904 : UInt64)) := by rw [ni, own_ninf2]; exact nn0
  have c3 : Jvm.Op.cmpValue (FP.dcmp (FP.ddiv (FP.dadd (18442240474082181120 : UInt64) (FP.i2d mx)) (4611686018427387904 : UInt64)) (18442240474082181120 : UInt64)) .l = (0 : Int32) := by rw [ni, own_ninf2]; exact cn
  rcases own_four p2 with hm | hm | hm | hm <;> rcases own_bit p3 with hk | hk
  · exact rm0_00 l Z a0 hw ws p0 p1 p2 p3 p4 mn mx ub h0 n0 Z0 (hv2 := hk) (hv13 := hm) (hr_r_18 := emn) (hr_r_25 := emx) (hj_ub := ehb) (hd9_157 := cx) (nn32_157 := rs.nn) (nn36_157 := rh.nn) (nn172 := rd.nn) (hd181 := rd.eq rl (by decide) rfl _)
  · exact rm0_01 l Z a0 hw ws p0 p1 p2 p3 p4 mn mx ub h0 n0 Z0 (hv2 := hk) (hv13 := hm) (hr_r_18 := emn) (hr_r_25 := emx) (hj_ub := ehb) (hd9_157 := cx) (nn32_157 := rs.nn) (nn36_157 := rh.nn) (nn172 := rd.nn) (hd181 := rd.eq rl (by decide) rfl _)
  · exact rm0_10 l Z a0 hw ws p0 p1 p2 p3 p4 mn mx ub h0 n0 Z0 (hv2 := hk) (hv13 := hm) (hr_r_18 := emn) (hr_r_25 := emx) (hj_ub := ehb) (hd9_157 := ci) (hd202 := Jvm.RoadKit.dcmpV_self rn.nn _)
  · exact rm0_11 l Z a0 hw ws p0 p1 p2 p3 p4 mn mx ub h0 n0 Z0 (hv2 := hk) (hv13 := hm) (hr_r_18 := emn) (hr_r_25 := emx) (hj_ub := ehb) (hd9_157 := ci) (hd202 := Jvm.RoadKit.dcmpV_self rn.nn _)
  · exact rm0_20 l Z a0 hw ws p0 p1 p2 p3 p4 mn mx ub h0 n0 Z0 (hv2 := hk) (hv13 := hm) (hr_r_18 := emn) (hr_r_25 := emx) (hj_ub := ehb) (hd9_157 := ci) (hd216 := cn)
  · exact rm0_21 l Z a0 hw ws p0 p1 p2 p3 p4 mn mx ub h0 n0 Z0 (hv2 := hk) (hv13 := hm) (hr_r_18 := emn) (hr_r_25 := emx) (hj_ub := ehb) (hd9_157 := ci) (hd216 := cn)
  · exact rm0_30 l Z a0 hw ws p0 p1 p2 p3 p4 mn mx ub h0 n0 Z0 (hv2 := hk) (hv13 := hm) (hr_r_18 := emn) (hr_r_25 := emx) (hj_ub := ehb) (hd9_157 := cx) (nn32_157 := by rw [ni]; exact nn0) (nn36_157 := n3) (hd216 := c3)
  · exact rm0_31 l Z a0 hw ws p0 p1 p2 p3 p4 mn mx ub h0 n0 Z0 (hv2 := hk) (hv13 := hm) (hr_r_18 := emn) (hr_r_25 := emx) (hj_ub := ehb) (hd9_157 := cx) (nn32_157 := by rw [ni]; exact nn0) (nn36_157 := n3) (hd216 := c3)
set_option maxRecDepth 65536 in
set_option maxHeartbeats 40000000 in
theorem comes_1 {Post : Tables → Env → Array Value → State → Outcome → State → Prop} (hpost : ∀ tb e args s v u, (limb_1_1.after args s (.returned v) u = true ∧ limb_1_2.after args s (.returned v) u = true ∧ True) → FrameEnd s (.returned v) u (Jvm.fieldLocs frame_1_writes args s ++ Jvm.arrayLocs frame_1_arrays args s ++ Jvm.staticLocs frame_1_statics s) 24 128 → Post tb e args s (.returned v) u) :
    ArmFor flags0 classFile x code maxLocals ret World_1 tables_1 room_1 Calls_1 rest_1 Pre_1 Post := by
  intro l hfl _ _ p e ha hc hk s m args below hf hA hF happ hP
  obtain ⟨hcalls, hrest, hpre⟩ := hP
  obtain ⟨-, -, -, hnamed, -, -, -, hat⟩ := (Spec.applies_iff hf).mp happ
  obtain ⟨hg, hn⟩ := and_e (Cond.before_iff.mp (show (Jvm.Cond.and given_1 narrow_1).before args s = true from hpre))
  obtain ⟨g1, g2⟩ := and_e hg
  obtain ⟨g3, g4⟩ := and_e g2
  obtain ⟨g5, g6⟩ := and_e g4
  obtain ⟨g7, g8⟩ := and_e g6
  obtain ⟨g9, g10⟩ := and_e g8
  obtain ⟨w0, w1, w2, w3, w4, rfl⟩ : ∃ w0 w1 w2 w3 w4 : Value, args = #[w0, w1, w2, w3, w4] := by
    have hs : args.size = 5 := by simpa [Cond.value, given_1] using g1
    obtain ⟨L⟩ := args
    match L, hs with
    | [w0, w1, w2, w3, w4], _ => exact ⟨w0, w1, w2, w3, w4, rfl⟩
  have hw := fun d (hd : d ∈ tables_1) => atoms_spec (ws := Jvm.Cond.code x code maxLocals ret :: tables_1) hat d (List.mem_cons_of_mem _ hd)
  have hfit : Fit s := fun {y c} hc i hi => by
    obtain ⟨ha, rfl⟩ := Array.getElem?_eq_some_iff.mp hc
    have q := List.all_eq_true.mp ((Array.all_eq_true_iff_forall_mem.mp hF) _ (Array.getElem_mem ha)) i (List.mem_range.mpr hi)
    simpa [Array.getElem?_eq_getElem hi] using q
  obtain ⟨i0, ei0⟩ := is_v g3
  obtain rfl : w0 = (.int i0) := Option.some.inj ei0
  obtain ⟨i1, ei1⟩ := is_v g5
  obtain rfl : w1 = (.int i1) := Option.some.inj ei1
  obtain ⟨i2, ei2⟩ := is_v g7
  obtain rfl : w2 = (.int i2) := Option.some.inj ei2
  obtain ⟨i3, ei3⟩ := is_v g9
  obtain rfl : w3 = (.int i3) := Option.some.inj ei3
  obtain ⟨i4, ei4⟩ := is_v g10
  obtain rfl : w4 = (.int i4) := Option.some.inj ei4
  obtain ⟨n, o, h1, h2, h3, _, L, rfl, ⟨rfl, N⟩, hq⟩ := own_law l s _ hw tables_1 i0 i1 i2 i3 i4 s.heap s.heap.size (Nat.le_refl _)  p e ha hc hk s m _ below hf ((Spec.applies_iff_loose hf).mp happ).1 ⟨rfl, State.Warmed39.refl s, rfl⟩ trivial
  refine ⟨n, _, h1, h2, h3, hpost _ _ _ _ _ _ ⟨Cond.after_iff.mpr rfl, Cond.after_iff.mpr (eq_i res_at (Term.int_eval (1)) rfl), trivial⟩ ⟨hq.1, hq.2.1, (hq.2.2.sift fun y hy => Or.inr (N y hy)).mono (by decide) (by decide)⟩⟩
theorem main_1_1 : Claimed_1_1 := comes_1 fun _ _ _ _ _ _ h hF => ⟨h.1, hF⟩
theorem main_1_2 : Claimed_1_2 := comes_1 fun _ _ _ _ _ _ h hF => ⟨h.2.1, hF⟩
end Jvm.Pilot.@@N@@
namespace Jvm.Pilot.@@N@@
open Jvm Jvm.ClassFile Sem Op Lib Jvm.Free Jvm.Stand Jvm.Pilot.@@N@@.Jvm.D
/-! MADE BY PROGRAM (witnessworld.py) out of the Statement's table words and the real class files: 13 classes; the members and pool entries that the words name. The judged class is class 1, her method 1. -/
namespace start1
open Jvm.ClassFile
def u (s : String) : CpInfo := .utf8 (stringToUtf16 s)
/-- a pool by its gaps: so many unusable entries, then the entry; so many at the end -/
def gap : Nat → List CpInfo → List CpInfo
  | 0, r => r
  | n + 1, r => .unusable :: gap n r
def poolList (es : List (Nat × CpInfo)) (last : Nat) : List CpInfo := es.foldr (fun e r => gap e.1 (e.2 :: r)) (gap last [])
def pool (es : List (Nat × CpInfo)) (last : Nat) : Array CpInfo := ⟨poolList es last⟩
def fileOf (pool : Array CpInfo) (this : Nat) (attrs : Array Attribute := #[]) (ms : Array MethodInfo := #[]) (fl : Nat := 33) (sup : Nat := 0) (ifs : Array Nat := #[]) (fds : Array FieldInfo := #[]) : ClassFile where
  minorVersion := 0
  majorVersion := 65
  constantPool := pool
  accessFlags := fl
  thisClass := this
  superClass := sup
  interfaces := ifs
  fields := fds
  methods := ms
  attributes := attrs
def plain (name : String) (sup : Option ClassId) : Class where
  name := name
  kind := .ordinary
  loader := none
  accessFlags := 33
  super := sup
  interfaces := #[]
  cf := none
  fields := #[]
  methods := #[]
  instanceTypes := #[]
  staticTypes := #[]
  resolved := #[]
  callSites := []
  init := .initialized
  statics := none
  mirror := none

def pool0 : Array CpInfo := pool [(5, u "<init>"), (0, u "()V"), (1, .class_ 10), (1, u "java/lang/Object")] 113

def k0c0 : Code := { maxStack := 0, maxLocals := 1, code := object_method_1_code, exceptionTable := #[], attributes := #[] }
def k0m0 : Method := { name := "<init>", desc := "()V", sig := { parameters := [], returnType := none }, accessFlags := 1, code := some k0c0 }
/-- java/lang/Object -/
def k0 : Class := { plain "java/lang/Object" none with
  accessFlags := 33
  interfaces := #[]
  cf := some (fileOf pool0 8 #[] #[{ accessFlags := 1, nameIndex := 5, descriptorIndex := 6, attributes := #[] }] 33 0 #[] #[])
  fields := #[]
  methods := #[k0m0]
  instanceTypes := #[]
  staticTypes := #[]
  resolved := Array.replicate 124 none
  statics := none }

def pool1 : Array CpInfo := pool [(2, .class_ 4), (1, u "java/lang/Object"), (0, u "<init>"), (0, u "()V"), (0, .methodref 8 9), (0, .class_ 10), (0, .nameAndType 11 12), (0, u "java/lang/Math"), (0, u "min"), (0, u "(II)I"), (0, .methodref 8 14), (0, .nameAndType 15 12), (0, u "max"), (2, .double 9218868437227405312), (1, .double 18442240474082181120), (1, .class_ 23), (0, u "com/example/hedge/hedge/ValueBounds"), (0, .methodref 22 25), (0, .nameAndType 5 26), (0, u "([D[D[I)V"), (0, .methodref 22 28), (0, .nameAndType 29 30), (0, u "value"), (0, u "(I)D"), (0, .double 4611686018427387904), (1, .class_ 34), (0, u "com/example/hedge/hedge/ValueBoundsValuePinLaw"), (2, u "law"), (0, u "(IIIII)Z")] 5

def k1m0 : Method := { name := "<init>", desc := "()V", sig := { parameters := [], returnType := none }, accessFlags := 1, code := none }
def k1c1 : Code := { maxStack := 8, maxLocals := 19, code := code, exceptionTable := #[], attributes := #[] }
def k1m1 : Method := { name := "law", desc := "(IIIII)Z", sig := { parameters := [.int, .int, .int, .int, .int], returnType := some .boolean }, accessFlags := 9, code := some k1c1 }
/-- com/example/hedge/hedge/ValueBoundsValuePinLaw -/
def k1 : Class := { plain "com/example/hedge/hedge/ValueBoundsValuePinLaw" (some 0) with
  accessFlags := 49
  interfaces := #[]
  cf := some (fileOf pool1 33 #[] #[{ accessFlags := 1, nameIndex := 5, descriptorIndex := 6, attributes := #[] }, { accessFlags := 9, nameIndex := 37, descriptorIndex := 38, attributes := #[] }] 49 2 #[] #[])
  fields := #[]
  methods := #[k1m0, k1m1]
  instanceTypes := #[]
  staticTypes := #[]
  resolved := Array.replicate 44 none
  statics := none }

def pool2 : Array CpInfo := pool [(1, .class_ 2), (0, u "java/lang/Math"), (1, .class_ 6), (1, u "java/lang/Object"), (0, u "<init>"), (0, u "()V"), (89, .class_ 100), (1, u "java/lang/Math$RandomNumberGeneratorHolder"), (71, u "negativeZeroFloatBits"), (0, u "J"), (2, u "negativeZeroDoubleBits"), (21, u "max"), (2, u "min"), (43, u "$assertionsDisabled"), (0, u "Z"), (88, u "(II)I"), (2, u "twoToTheDoubleScaleDown"), (0, u "D"), (4, u "twoToTheDoubleScaleUp"), (9, u "E"), (3, u "PI"), (2, u "TAU"), (2, u "DEGREES_TO_RADIANS"), (0, u "RADIANS_TO_DEGREES")] 94

def k2m0 : Method := { name := "<init>", desc := "()V", sig := { parameters := [], returnType := none }, accessFlags := 2, code := none }
def k2c1 : Code := { maxStack := 2, maxLocals := 2, code := jdk_29_method_65_code, exceptionTable := #[], attributes := #[] }
def k2m1 : Method := { name := "max", desc := "(II)I", sig := { parameters := [.int, .int], returnType := some .int }, accessFlags := 9, code := some k2c1 }
def k2c2 : Code := { maxStack := 2, maxLocals := 2, code := jdk_29_method_69_code, exceptionTable := #[], attributes := #[] }
def k2m2 : Method := { name := "min", desc := "(II)I", sig := { parameters := [.int, .int], returnType := some .int }, accessFlags := 9, code := some k2c2 }
/-- java/lang/Math -/
def k2 : Class := { plain "java/lang/Math" (some 0) with
  accessFlags := 49
  interfaces := #[]
  cf := some (fileOf pool2 1 #[.nestMembers #[98]] #[{ accessFlags := 2, nameIndex := 7, descriptorIndex := 8, attributes := #[] }, { accessFlags := 9, nameIndex := 198, descriptorIndex := 335, attributes := #[] }, { accessFlags := 9, nameIndex := 201, descriptorIndex := 335, attributes := #[] }] 49 4 #[] #[{ accessFlags := 25, nameIndex := 354, descriptorIndex := 339, attributes := #[] }, { accessFlags := 25, nameIndex := 358, descriptorIndex := 339, attributes := #[] }, { accessFlags := 25, nameIndex := 361, descriptorIndex := 339, attributes := #[] }, { accessFlags := 26, nameIndex := 364, descriptorIndex := 339, attributes := #[] }, { accessFlags := 26, nameIndex := 365, descriptorIndex := 339, attributes := #[] }, { accessFlags := 26, nameIndex := 172, descriptorIndex := 173, attributes := #[] }, { accessFlags := 26, nameIndex := 176, descriptorIndex := 173, attributes := #[] }, { accessFlags := 8, nameIndex := 344, descriptorIndex := 339, attributes := #[] }, { accessFlags := 8, nameIndex := 338, descriptorIndex := 339, attributes := #[] }, { accessFlags := 4120, nameIndex := 245, descriptorIndex := 246, attributes := #[] }])
  fields := #[{ name := "E", type := .double, accessFlags := 25, slot := 0, constantValue := 0 }, { name := "PI", type := .double, accessFlags := 25, slot := 1, constantValue := 0 }, { name := "TAU", type := .double, accessFlags := 25, slot := 2, constantValue := 0 }, { name := "DEGREES_TO_RADIANS", type := .double, accessFlags := 26, slot := 3, constantValue := 0 }, { name := "RADIANS_TO_DEGREES", type := .double, accessFlags := 26, slot := 4, constantValue := 0 }, { name := "negativeZeroFloatBits", type := .long, accessFlags := 26, slot := 5, constantValue := 0 }, { name := "negativeZeroDoubleBits", type := .long, accessFlags := 26, slot := 6, constantValue := 0 }, { name := "twoToTheDoubleScaleUp", type := .double, accessFlags := 8, slot := 7, constantValue := 0 }, { name := "twoToTheDoubleScaleDown", type := .double, accessFlags := 8, slot := 8, constantValue := 0 }, { name := "$assertionsDisabled", type := .boolean, accessFlags := 4120, slot := 9, constantValue := 0 }]
  methods := #[k2m0, k2m1, k2m2]
  instanceTypes := #[]
  staticTypes := #[.double, .double, .double, .double, .double, .long, .long, .double, .double, .boolean]
  resolved := Array.replicate 460 none
  statics := none }

def pool3 : Array CpInfo := pool [(1, .class_ 2), (0, u "[I"), (0, .methodref 4 5), (0, .class_ 6), (0, .nameAndType 7 8), (0, u "com/example/hedge/hedge/ValueBounds"), (0, u "<init>"), (0, u "([D[D[[I)V"), (0, .methodref 10 11), (0, .class_ 12), (0, .nameAndType 7 13), (0, u "java/lang/Object"), (0, u "()V"), (0, .fieldref 4 15), (0, .nameAndType 16 17), (0, u "lower"), (0, u "[D"), (0, .fieldref 4 19), (0, .nameAndType 20 17), (0, u "upper"), (0, .fieldref 4 22), (0, .nameAndType 23 24), (0, u "strategy"), (0, u "[[I"), (2, .double 9218868437227405312), (1, .double 4611686018427387904), (7, u "([D[D[I)V"), (2, u "(I)D"), (0, u "value")] 5

def k3c0 : Code := { maxStack := 7, maxLocals := 4, code := prog_32_method_1_code, exceptionTable := #[], attributes := #[] }
def k3m0 : Method := { name := "<init>", desc := "([D[D[I)V", sig := { parameters := [(.array .double), (.array .double), (.array .int)], returnType := none }, accessFlags := 0, code := some k3c0 }
def k3c1 : Code := { maxStack := 2, maxLocals := 4, code := prog_32_method_2_code, exceptionTable := #[], attributes := #[] }
def k3m1 : Method := { name := "<init>", desc := "([D[D[[I)V", sig := { parameters := [(.array .double), (.array .double), (.array (.array .int))], returnType := none }, accessFlags := 0, code := some k3c1 }
def k3c2 : Code := { maxStack := 4, maxLocals := 2, code := prog_32_method_5_code, exceptionTable := #[], attributes := #[] }
def k3m2 : Method := { name := "value", desc := "(I)D", sig := { parameters := [.int], returnType := some .double }, accessFlags := 1, code := some k3c2 }
/-- com/example/hedge/hedge/ValueBounds -/
def k3 : Class := { plain "com/example/hedge/hedge/ValueBounds" (some 0) with
  accessFlags := 49
  interfaces := #[]
  cf := some (fileOf pool3 4 #[] #[{ accessFlags := 0, nameIndex := 7, descriptorIndex := 37, attributes := #[] }, { accessFlags := 0, nameIndex := 7, descriptorIndex := 8, attributes := #[] }, { accessFlags := 1, nameIndex := 41, descriptorIndex := 40, attributes := #[] }] 49 10 #[] #[{ accessFlags := 18, nameIndex := 16, descriptorIndex := 17, attributes := #[] }, { accessFlags := 18, nameIndex := 20, descriptorIndex := 17, attributes := #[] }, { accessFlags := 18, nameIndex := 23, descriptorIndex := 24, attributes := #[] }])
  fields := #[{ name := "lower", type := (.array .double), accessFlags := 18, slot := 0, constantValue := 0 }, { name := "upper", type := (.array .double), accessFlags := 18, slot := 1, constantValue := 0 }, { name := "strategy", type := (.array (.array .int)), accessFlags := 18, slot := 2, constantValue := 0 }]
  methods := #[k3m0, k3m1, k3m2]
  instanceTypes := #[(.array .double), (.array .double), (.array (.array .int))]
  staticTypes := #[]
  resolved := Array.replicate 47 none
  statics := none }

def pool4 : Array CpInfo := pool [(1, u "java/lang/Cloneable"), (0, .class_ 1), (0, u "java/lang/Object"), (0, .class_ 3)] 3

/-- java/lang/Cloneable -/
def k4 : Class := { plain "java/lang/Cloneable" (some 0) with
  accessFlags := 1537
  interfaces := #[]
  cf := some (fileOf pool4 2 #[] #[] 1537 4 #[] #[])
  fields := #[]
  methods := #[]
  instanceTypes := #[]
  staticTypes := #[]
  resolved := Array.replicate 8 none
  statics := none }

def pool5 : Array CpInfo := pool [(1, u "java/io/Serializable"), (0, .class_ 1), (0, u "java/lang/Object"), (0, .class_ 3)] 3

/-- java/io/Serializable -/
def k5 : Class := { plain "java/io/Serializable" (some 0) with
  accessFlags := 1537
  interfaces := #[]
  cf := some (fileOf pool5 2 #[] #[] 1537 4 #[] #[])
  fields := #[]
  methods := #[]
  instanceTypes := #[]
  staticTypes := #[]
  resolved := Array.replicate 8 none
  statics := none }

/-- the primitive byte -/
def k6 : Class := { plain "byte" none with kind := .primitive 'B', accessFlags := 0x411 }
/-- [B -/
def k7 : Class := { plain "[B" (some 0) with kind := .array 6 .byte, interfaces := #[4, 5], accessFlags := 1041 }

/-- the primitive double -/
def k8 : Class := { plain "double" none with kind := .primitive 'D', accessFlags := 0x411 }
/-- [D -/
def k9 : Class := { plain "[D" (some 0) with kind := .array 8 .double, interfaces := #[4, 5], accessFlags := 1041 }

/-- the primitive int -/
def k10 : Class := { plain "int" none with kind := .primitive 'I', accessFlags := 0x411 }
/-- [I -/
def k11 : Class := { plain "[I" (some 0) with kind := .array 10 .int, interfaces := #[4, 5], accessFlags := 1041 }

/-- [[I -/
def k12 : Class := { plain "[[I" (some 0) with kind := .array 11 (.array .int), interfaces := #[4, 5], accessFlags := 1041 }

def heap : Heap := #[]
def classes : Array Class := #[k0, k1, k2, k3, k4, k5, k6, k7, k8, k9, k10, k11, k12]
def interned : List (Array UInt16 × Addr) := []
def slotsUsed : Nat := 0
def theMethod : MethodId := ⟨1, 1⟩
def args0 : Array Value := #[.int 5, .int 7, .int 3, .int 2, .int 1]
def aboutOver (below : List Frame) : State where
  vm := { classes := classes, interned := interned.toArray }
  heap := heap
  slotsUsed := slotsUsed
  threads := #[{ frames := .invoking theMethod args0 :: below }]
def below0 : List Frame := [.native { method := ⟨0, 0⟩, args := #[] }]
def about1 : State := aboutOver below0
def p0 : Program := .bare "" "" ""
def e0 : Env := launch0.env 0 0 0
theorem w_frames : about1.frames = Frame.invoking theMethod args0 :: below0 := rfl
set_option maxRecDepth 65536 in
theorem w_args : argsFit about1.vm theMethod args0 = true := by decide +kernel
set_option maxRecDepth 65536 in
theorem w_heap : heapFits about1 = true := by decide +kernel
set_option maxRecDepth 65536 in
theorem w_runnable : about1.curStatus? = some .runnable := by decide +kernel
set_option maxRecDepth 65536 in
theorem w_alone : about1.alone = true := by decide +kernel
set_option maxRecDepth 65536 in
theorem w_named : about1.methodNamed? x = some theMethod := by decide +kernel
set_option maxRecDepth 65536 in
theorem w_hears : about1.hears theMethod below0 = true := by decide +kernel
set_option maxRecDepth 65536 in
theorem w_ripe : about1.ripe theMethod args0 below0 = true := by decide +kernel
theorem w_running : about1.status = .running := rfl
set_option maxRecDepth 65536 in
theorem w_room : about1.hasRoom e0.platform room_1 = true :=
  launch0.hasRoom_least _ room_1 (by decide +kernel) (by decide +kernel) (by decide +kernel) (by decide +kernel) (by decide +kernel) (by decide +kernel)
theorem allAtoms_all (ts : List Jvm.Cond) (a : Array Jvm.Value) (st : Jvm.State) : (allAtoms ts).before a st = ts.all (fun c => c.before a st) := by
  induction ts with
  | nil => rfl
  | cons c t ih =>
    show (Jvm.Cond.and c (allAtoms t)).before a st = _
    rw [Jvm.Cond.before_and, ih, List.all_cons]
def words1 : List Jvm.Cond := Jvm.Cond.code x code maxLocals ret :: tables_1
/-- a 'code' word, met by the world's own term for the bytes: nothing is compared byte by byte -/
theorem code_word {y : MethodName} {bytes : ByteArray} {mx : Nat} {rt : Option FieldType} {a : Array Value} {s : State} {m : MethodId} {meth : Method} {c : Code} (h1 : s.methodNamed? y = some m) (h2 : s.vm.method? m = some meth) (h3 : meth.code = some c) (h4 : c.code = bytes)
    (h5 : (c.maxLocals == mx && c.exceptionTable.isEmpty && decide (c.maxStack ≤ mostOperands) && decide (meth.sig.returnType = rt) && !meth.locks && decide (parseMethodDescriptor y.desc = some meth.sig)) = true) : (Jvm.Cond.code y bytes mx rt).before a s = true := by
  simp only [Bool.and_eq_true, beq_iff_eq, Bool.not_eq_true', decide_eq_true_eq] at h5
  obtain ⟨⟨⟨⟨⟨g1, g2⟩, g3⟩, g4⟩, g5⟩, g6⟩ := h5
  simp [Cond.before, Cond.holds, Cond.value, h1, h2, h3, h4, g1, g2, g3, g4, g5, g6]
def isCode : Jvm.Cond → Bool
  | .code _ _ _ _ => true
  | _ => false
theorem all_split {L : List Jvm.Cond} {P : Jvm.Cond → Bool} (h1 : L.all (fun c => isCode c || P c) = true) (h2 : ∀ c ∈ L.filter isCode, P c = true) : L.all P = true := by
  refine List.all_eq_true.mpr fun c hc => ?_
  have h := List.all_eq_true.mp h1 c hc
  rcases Bool.eq_false_or_eq_true (isCode c) with hi | hi
  · exact h2 c (List.mem_filter.mpr ⟨hc, hi⟩)
  · simpa [hi] using h
set_option maxRecDepth 65536 in
theorem w_c0 : (Jvm.Cond.code x code maxLocals ret).before args0 about1 = true := code_word (m := ⟨1, 1⟩) (meth := k1m1) (c := k1c1) (by decide +kernel) rfl rfl rfl (by decide +kernel)
set_option maxRecDepth 65536 in
theorem w_c1 : (Jvm.Cond.code ({ cls := "java/lang/Math", name := "min", desc := "(II)I" } : Jvm.MethodName) jdk_29_method_69_code (2 : Nat) (Option.some Jvm.ClassFile.FieldType.int)).before args0 about1 = true := code_word (m := ⟨2, 2⟩) (meth := k2m2) (c := k2c2) (by decide +kernel) rfl rfl rfl (by decide +kernel)
set_option maxRecDepth 65536 in
theorem w_c2 : (Jvm.Cond.code ({ cls := "java/lang/Math", name := "max", desc := "(II)I" } : Jvm.MethodName) jdk_29_method_65_code (2 : Nat) (Option.some Jvm.ClassFile.FieldType.int)).before args0 about1 = true := code_word (m := ⟨2, 1⟩) (meth := k2m1) (c := k2c1) (by decide +kernel) rfl rfl rfl (by decide +kernel)
set_option maxRecDepth 65536 in
theorem w_c3 : (Jvm.Cond.code ({ cls := "com/example/hedge/hedge/ValueBounds", name := "<init>", desc := "([D[D[I)V" } : Jvm.MethodName) prog_32_method_1_code (4 : Nat) (Option.none : Option Jvm.ClassFile.FieldType)).before args0 about1 = true := code_word (m := ⟨3, 0⟩) (meth := k3m0) (c := k3c0) (by decide +kernel) rfl rfl rfl (by decide +kernel)
set_option maxRecDepth 65536 in
theorem w_c4 : (Jvm.Cond.code ({ cls := "com/example/hedge/hedge/ValueBounds", name := "<init>", desc := "([D[D[[I)V" } : Jvm.MethodName) prog_32_method_2_code (4 : Nat) (Option.none : Option Jvm.ClassFile.FieldType)).before args0 about1 = true := code_word (m := ⟨3, 1⟩) (meth := k3m1) (c := k3c1) (by decide +kernel) rfl rfl rfl (by decide +kernel)
set_option maxRecDepth 65536 in
theorem w_c5 : (Jvm.Cond.code ({ cls := "java/lang/Object", name := "<init>", desc := "()V" } : Jvm.MethodName) object_method_1_code (1 : Nat) (Option.none : Option Jvm.ClassFile.FieldType)).before args0 about1 = true := code_word (m := ⟨0, 0⟩) (meth := k0m0) (c := k0c0) (by decide +kernel) rfl rfl rfl (by decide +kernel)
set_option maxRecDepth 65536 in
theorem w_c6 : (Jvm.Cond.code ({ cls := "com/example/hedge/hedge/ValueBounds", name := "value", desc := "(I)D" } : Jvm.MethodName) prog_32_method_5_code (2 : Nat) (Option.some Jvm.ClassFile.FieldType.double)).before args0 about1 = true := code_word (m := ⟨3, 2⟩) (meth := k3m2) (c := k3c2) (by decide +kernel) rfl rfl rfl (by decide +kernel)
def codes1 : List Jvm.Cond := [Jvm.Cond.code x code maxLocals ret, Jvm.Cond.code ({ cls := "java/lang/Math", name := "min", desc := "(II)I" } : Jvm.MethodName) jdk_29_method_69_code (2 : Nat) (Option.some Jvm.ClassFile.FieldType.int), Jvm.Cond.code ({ cls := "java/lang/Math", name := "max", desc := "(II)I" } : Jvm.MethodName) jdk_29_method_65_code (2 : Nat) (Option.some Jvm.ClassFile.FieldType.int), Jvm.Cond.code ({ cls := "com/example/hedge/hedge/ValueBounds", name := "<init>", desc := "([D[D[I)V" } : Jvm.MethodName) prog_32_method_1_code (4 : Nat) (Option.none : Option Jvm.ClassFile.FieldType), Jvm.Cond.code ({ cls := "com/example/hedge/hedge/ValueBounds", name := "<init>", desc := "([D[D[[I)V" } : Jvm.MethodName) prog_32_method_2_code (4 : Nat) (Option.none : Option Jvm.ClassFile.FieldType), Jvm.Cond.code ({ cls := "java/lang/Object", name := "<init>", desc := "()V" } : Jvm.MethodName) object_method_1_code (1 : Nat) (Option.none : Option Jvm.ClassFile.FieldType), Jvm.Cond.code ({ cls := "com/example/hedge/hedge/ValueBounds", name := "value", desc := "(I)D" } : Jvm.MethodName) prog_32_method_5_code (2 : Nat) (Option.some Jvm.ClassFile.FieldType.double)]
set_option maxRecDepth 65536 in
theorem codes_eq : words1.filter isCode = codes1 := rfl
theorem w_codes : ∀ c ∈ words1.filter isCode, c.before args0 about1 = true := by
  rw [codes_eq]
  intro c hc
  simp only [codes1, List.mem_cons, List.not_mem_nil, or_false] at hc
  rcases hc with rfl | rfl | rfl | rfl | rfl | rfl | rfl
  · exact w_c0
  · exact w_c1
  · exact w_c2
  · exact w_c3
  · exact w_c4
  · exact w_c5
  · exact w_c6
set_option maxRecDepth 65536 in
theorem w_t1 : (words1.take 24).all (fun c => isCode c || c.before args0 about1) = true := by decide +kernel
set_option maxRecDepth 65536 in
theorem w_t2 : (words1.drop 24).all (fun c => isCode c || c.before args0 about1) = true := by decide +kernel
theorem w_tables : (allAtoms (Jvm.Cond.code x code maxLocals ret :: tables_1)).before args0 about1 = true := by
  rw [allAtoms_all]
  show words1.all (fun c => c.before args0 about1) = true
  refine all_split ?_ w_codes
  rw [← List.take_append_drop 24 words1, List.all_append, w_t1, w_t2]
  rfl
set_option maxRecDepth 65536 in
theorem w_case : (Jvm.Cond.and given_1 narrow_1).before args0 about1 = true := by decide +kernel
theorem w_applies : (headSpec (Jvm.Cond.code x code maxLocals ret :: tables_1) room_1).applies x e0.platform about1 = true :=
  (Spec.applies_iff w_frames).mpr ⟨w_running, w_runnable, w_alone, w_named, w_hears, w_ripe, w_room, w_tables⟩
theorem atStart : AtStart classFile x code maxLocals ret World_1 tables_1 room_1 Calls_1 rest_1 Pre_1 launch0 p0 e0 about1 theMethod args0 below0 :=
  ⟨lists_1, trivial, launch0.admits_env _ _ _, launch0.least_env, fairChoices_fair.cas, fairChoices_fair.clock, w_frames, w_args, w_heap, w_applies, trivial, trivial, w_case⟩
end start1
theorem witness_1 : WitnessClaimed_1 := ⟨start1.p0, start1.e0, start1.about1, start1.theMethod, start1.args0, start1.below0, start1.atStart⟩
end Jvm.Pilot.@@N@@
