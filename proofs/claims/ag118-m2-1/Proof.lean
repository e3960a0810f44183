import JvmDerived
import JvmDerived.Pilot.@@N@@Statement
import JvmDerived.Pilot.@@N@@Code
set_option linter.unusedVariables false
set_option linter.unusedSimpArgs false
namespace Jvm.RoadKit
open Sem ClassFile Op Lib Jvm.Stand Jvm.Free Jvm.LawKit
section Own
variable {p : Program} {l : Launch} {e : Env} {R : Room} {s : State} {m : MethodId} {args : Array Value} {below : List Frame} {meth : Method} {c : Code} {T : State} {locs : List Loc} {cells slots : Nat}
theorem own_ni0 {a : Addr} : a ∉ ([] : List Addr) := List.not_mem_nil
theorem own_niS {a b : Addr} {ws : List Addr} (h : a ≠ b) (r : a ∉ ws) : a ∉ b :: ws := fun q => (List.mem_cons.mp q).elim h r
theorem own_all0 {P : Addr → Prop} : ∀ x ∈ ([] : List Addr), P x := fun _ q => nomatch q
theorem own_allS {P : Addr → Prop} {b : Addr} {ws : List Addr} (h : P b) (r : ∀ x ∈ ws, P x) : ∀ x ∈ b :: ws, P x := fun x q => (List.mem_cons.mp q).elim (fun e => e ▸ h) (r x)
theorem own_lremM {g : JFrame} {target : State} (X : Stand p l e R s m args below meth c T locs cells slots) (hx : p.tables.exec = Jvm.exec) (hg : g.method = m) {x y : Int64} {rest : List Value} (hd : decode c.code g.pc = .ok (.lrem, 1)) (hs : g.stack = .long y :: .long x :: rest) (hy : y ≠ 0)
    (hr : Steps p.tables e below (T.setTop { g with pc := g.pc + 1, stack := .long (x % y) :: rest }) target) : Steps p.tables e below (T.setTop g) target :=
  XS.lrem X.here hx hg hd hs hy (by rw [lrem_mod]; exact hr)
end Own
end Jvm.RoadKit
namespace Jvm.OwnFP
open Jvm.FP Jvm.FP.Core Jvm.Free.Fl
/-- a double's worth, in units of the least positive double -/
def zv (x : UInt64) : Int := zval b64 (val64 x)
/-- x is finite and is the number i / D -/
def Ra (i : Int) (D : Nat) (x : UInt64) : Prop := DFin x ∧ zv x * (D : Int) = i * (one64 : Int)
theorem Ra.fin {i : Int} {D : Nat} {x : UInt64} (h : Ra i D x) : Fin64 x := fin64_core.mpr h.1
theorem Ra.nn {i : Int} {D : Nat} {x : UInt64} (h : Ra i D x) : NoNaN64 x := h.fin.noNaN
theorem Ra.ne_nan {i : Int} {D : Nat} {x : UInt64} (h : Ra i D x) : val64 x ≠ .nan := h.1.ne_nan
theorem oz : (0 : Int) < (one64 : Int) := Int.natCast_pos.mpr one64_pos
theorem nan_of {x : UInt64} (h : NoNaN64 x) : val64 x ≠ .nan := (notNaN_iff x).mp (noNaN64_no.mp h)
theorem mulc {a b c : Int} (hc : c ≠ 0) (h : a * c = b * c) : a = b := Int.eq_of_mul_eq_mul_right hc h
theorem al_scale {z D D' i i' o : Int} (h : z * D = i * o) (e : i * D' = i' * D) : z * D' * D = i' * o * D := by
  calc z * D' * D = z * D * D' := by ac_rfl
    _ = i * o * D' := by rw [h]
    _ = i * D' * o := by ac_rfl
    _ = i' * o * D := by rw [e]; ac_rfl
theorem al_mul {x y v D E i j o : Int} (hx : x * D = i * o) (hy : y * E = j * o) (hv : v * (D * E) = i * j * o) : x * y * (D * E) = v * o * (D * E) := by
  calc x * y * (D * E) = (x * D) * (y * E) := by ac_rfl
    _ = (i * o) * (j * o) := by rw [hx, hy]
    _ = (i * j * o) * o := by ac_rfl
    _ = v * (D * E) * o := by rw [hv]
    _ = v * o * (D * E) := by ac_rfl
theorem al_mulr {x y v D E F i j r o : Int} (hx : x * D = i * o) (hy : y * E = j * o) (hv : v * F = r * o) (h : i * j * F = r * (D * E)) : x * y * D * E * F = v * o * D * E * F := by
  calc x * y * D * E * F = (x * D) * (y * E) * F := by ac_rfl
    _ = (i * j * F) * (o * o) := by rw [hx, hy]; ac_rfl
    _ = (r * o) * o * (D * E) := by rw [h]; ac_rfl
    _ = (v * F) * o * (D * E) := by rw [hv]
    _ = v * o * D * E * F := by ac_rfl
theorem al_div {x y v D E F i j r o : Int} (hx : x * D = i * o) (hy : y * E = j * o) (hv : v * F = r * o) (h : i * E * F = r * (j * D)) : x * o * D * E * F = v * y * D * E * F := by
  calc x * o * D * E * F = (x * D) * (o * E * F) := by ac_rfl
    _ = (i * E * F) * (o * o) := by rw [hx]; ac_rfl
    _ = (r * o) * (j * o) * D := by rw [h]; ac_rfl
    _ = (v * F) * (y * E) * D := by rw [hv, hy]
    _ = v * y * D * E * F := by ac_rfl
theorem al_units {V d P Q : Nat} : V * P * d * Q = (V * (d * Q)) * P := by ac_rfl
theorem al_mag {i P D o : Nat} (h : i ≤ P * D) : i * o ≤ P * o * D := by
  calc i * o ≤ P * D * o := Nat.mul_le_mul_right _ h
    _ = P * o * D := by ac_rfl
theorem rep {i : Int} {D k : Nat} (hi : i.natAbs < 9007199254740992) (hD : D = 2 ^ k) (hk : k ≤ 1000) : ∃ V, Ra i D V := by
  have hc : i.natAbs < 2 ^ b64.p := by rw [show (2 : Nat) ^ b64.p = 9007199254740992 by decide +kernel]; exact hi
  have hq2 : b64.qmax = 971 := by decide
  obtain ⟨c', q', h1, h2⟩ := round_exact good_b64 (decide (i < 0)) (c := i.natAbs) (q := -(k : Int)) hc (by rw [qmin_b64]; omega) (by rw [hq2]; omega)
  refine ⟨of64 (round b64 (.fin (decide (i < 0)) i.natAbs (-(k : Int)))), ⟨_, _, _, by rw [val64_of64 (round_fits good_b64 _), h1]⟩, ?_⟩
  unfold zv
  rw [val64_of64 (round_fits good_b64 _), h1]
  show signed (decide (i < 0)) (inUnits c' q' b64.qmin) * _ = _
  rw [h2]
  unfold inUnits
  have e1 : signed (decide (i < 0)) i.natAbs = i := by unfold signed; by_cases h : i < 0 <;> simp [h] <;> omega
  have e2 : (-(k : Int) - b64.qmin).toNat + k = 1074 := by rw [qmin_b64]; omega
  rw [signed_mul, e1, Int.mul_assoc, hD, ← Int.natCast_mul, ← Nat.pow_add, e2]
  rfl
theorem fin_of {x V : UInt64} (hn : val64 x ≠ .nan) (hV : DFin V) (h : zv x = zv V) : DFin x := by
  cases hx : val64 x with
  | nan => exact absurd hx hn
  | fin s c q => exact ⟨s, c, q, hx⟩
  | inf s =>
    exfalso
    have h1 := hV.zval_lt
    unfold zv zval at h
    rw [hx] at h
    have h2 := congrArg Int.natAbs h
    rw [natAbs_signed, natAbs_signed] at h2
    exact absurd h2.symm (Nat.ne_of_lt h1)
theorem Ra.scale {i i' : Int} {D D' : Nat} {x : UInt64} (h : Ra i D x) (hD : 0 < D) (e : i * (D' : Int) = i' * (D : Int)) : Ra i' D' x := by
  exact ⟨h.1, mulc (c := (D : Int)) (by omega) (al_scale h.2 e)⟩
theorem Ra.same {i i' : Int} {D : Nat} {x : UInt64} (h : Ra i D x) (e : i = i') : Ra i' D x := e ▸ h
theorem Ra.add {i j : Int} {D k : Nat} {x y : UInt64} (hx : Ra i D x) (hy : Ra j D y) (h : (i + j).natAbs < 9007199254740992) (hD : D = 2 ^ k) (hk : k ≤ 1000) : Ra (i + j) D (FP.dadd x y) := by
  obtain ⟨V, hV⟩ := rep h hD hk
  have hD0 : (D : Int) ≠ 0 := by rw [hD]; exact Int.ne_of_gt (Int.natCast_pos.mpr (Nat.two_pow_pos k))
  have hs : zval b64 (val64 x) + zval b64 (val64 y) = zval b64 (val64 V) := mulc hD0 (by
    have a := hx.2; have b := hy.2; have c := hV.2
    unfold zv at a b c
    rw [Int.add_mul, a, b, c, Int.add_mul])
  have hz : zv (Core.dadd x y) = zv V := by
    unfold zv
    rw [val64_dadd]
    exact Int.le_antisymm (sum_le good_b64 hx.1 hy.1 (val64_fits x) (val64_fits y) (val64_fits V) hV.ne_nan (Int.le_of_eq hs)) (sum_ge good_b64 hx.1 hy.1 (val64_fits x) (val64_fits y) (val64_fits V) hV.ne_nan (Int.le_of_eq hs.symm))
  exact ⟨fin_of ((notNaN_iff _).mp (dadd_out hx.1.notNaN hy.1)) hV.1 hz, by show zv (Core.dadd x y) * _ = _; rw [hz, hV.2]⟩
theorem fin_negate {x : UInt64} (h : DFin x) : ∃ s c q, negate (val64 x) = .fin s c q := by
  obtain ⟨s, c, q, h⟩ := h; exact ⟨!s, c, q, by rw [h]; rfl⟩
theorem Ra.sub {i j : Int} {D k : Nat} {x y : UInt64} (hx : Ra i D x) (hy : Ra j D y) (h : (i - j).natAbs < 9007199254740992) (hD : D = 2 ^ k) (hk : k ≤ 1000) : Ra (i - j) D (FP.dsub x y) := by
  obtain ⟨V, hV⟩ := rep h hD hk
  have hD0 : (D : Int) ≠ 0 := by rw [hD]; exact Int.ne_of_gt (Int.natCast_pos.mpr (Nat.two_pow_pos k))
  have hs : zval b64 (val64 x) + zval b64 (negate (val64 y)) = zval b64 (val64 V) := mulc hD0 (by
    have a := hx.2; have b := hy.2; have c := hV.2
    unfold zv at a b c
    rw [zval_negate, Int.add_mul, Int.neg_mul, a, b, c, Int.sub_mul]
    omega)
  have hz : zv (Core.dsub x y) = zv V := by
    unfold zv
    rw [val64_dsub]
    exact Int.le_antisymm (sum_le good_b64 hx.1 (fin_negate hy.1) (val64_fits x) (negate_fits (val64_fits y)) (val64_fits V) hV.ne_nan (Int.le_of_eq hs)) (sum_ge good_b64 hx.1 (fin_negate hy.1) (val64_fits x) (negate_fits (val64_fits y)) (val64_fits V) hV.ne_nan (Int.le_of_eq hs.symm))
  exact ⟨fin_of ((notNaN_iff _).mp (dsub_out hx.1.notNaN hy.1)) hV.1 hz, by show zv (Core.dsub x y) * _ = _; rw [hz, hV.2]⟩
theorem qq : (b64.qmin - 2 * b64.qmin).toNat = (-b64.qmin).toNat := by rw [qmin_b64]; decide
/-- a product, held against a double -/
theorem mul_le {x y V : UInt64} (hx : DFin x) (hy : DFin y) (hV : val64 V ≠ .nan) (h : zv x * zv y ≤ zv V * (one64 : Int)) : zv (Core.dmul x y) ≤ zv V := by
  obtain ⟨s, c, q, ex⟩ := hx
  obtain ⟨t, d, r, ey⟩ := hy
  have fx := val64_fits x; have fy := val64_fits y
  rw [ex] at fx; rw [ey] at fy
  obtain ⟨p1, p2, p3⟩ := product_units fx fy
  unfold zv at h ⊢
  rw [val64_dmul, ex, ey, p1]
  rw [ex, ey] at h
  exact zval_round_le good_b64 (val64_fits V) hV (e0 := 2 * b64.qmin) (by rw [qmin_b64]; decide) p2 (by rw [p3, signed_xor, qq, pow_qmin64]; exact h)
theorem mul_ge {x y V : UInt64} (hx : DFin x) (hy : DFin y) (hV : val64 V ≠ .nan) (h : zv V * (one64 : Int) ≤ zv x * zv y) : zv V ≤ zv (Core.dmul x y) := by
  obtain ⟨s, c, q, ex⟩ := hx
  obtain ⟨t, d, r, ey⟩ := hy
  have fx := val64_fits x; have fy := val64_fits y
  rw [ex] at fx; rw [ey] at fy
  obtain ⟨p1, p2, p3⟩ := product_units fx fy
  unfold zv at h ⊢
  rw [val64_dmul, ex, ey, p1]
  rw [ex, ey] at h
  exact zval_round_ge good_b64 (val64_fits V) hV (e0 := 2 * b64.qmin) (by rw [qmin_b64]; decide) p2 (by rw [p3, signed_xor, qq, pow_qmin64]; exact h)
/-- the product's worth, where it is a double's -/
theorem mul_zv {x y V : UInt64} (hx : DFin x) (hy : DFin y) (hV : val64 V ≠ .nan) (h : zv x * zv y = zv V * (one64 : Int)) : zv (Core.dmul x y) = zv V :=
  Int.le_antisymm (mul_le hx hy hV (Int.le_of_eq h)) (mul_ge hx hy hV (Int.le_of_eq h.symm))
theorem Ra.mul {i j : Int} {D E k : Nat} {x y : UInt64} (hx : Ra i D x) (hy : Ra j E y) (h : (i * j).natAbs < 9007199254740992) (hD : D * E = 2 ^ k) (hk : k ≤ 1000) : Ra (i * j) (D * E) (FP.dmul x y) := by
  obtain ⟨V, hV⟩ := rep h hD hk
  have hD0 : ((D * E : Nat) : Int) ≠ 0 := by rw [hD]; exact Int.ne_of_gt (Int.natCast_pos.mpr (Nat.two_pow_pos k))
  have hv := hV.2
  rw [Int.natCast_mul] at hv hD0
  have hs : zv x * zv y = zv V * (one64 : Int) := mulc hD0 (al_mul hx.2 hy.2 hv)
  have hz : zv (Core.dmul x y) = zv V := mul_zv hx.1 hy.1 hV.ne_nan hs
  exact ⟨fin_of ((notNaN_iff _).mp (dmul_out hx.1 hy.1)) hV.1 hz, by show zv (Core.dmul x y) * _ = _; rw [hz, hV.2]⟩
/-- a product written in its least terms -/
theorem Ra.mulr {i j r : Int} {D E F k : Nat} {x y : UInt64} (hx : Ra i D x) (hy : Ra j E y) (hD : 0 < D) (hE : 0 < E) (hr : r.natAbs < 9007199254740992) (hF : F = 2 ^ k) (hk : k ≤ 1000) (h : i * j * (F : Int) = r * ((D : Int) * (E : Int))) : Ra r F (FP.dmul x y) := by
  obtain ⟨V, hV⟩ := rep hr hF hk
  have hF0 : (F : Int) ≠ 0 := by rw [hF]; exact Int.ne_of_gt (Int.natCast_pos.mpr (Nat.two_pow_pos k))
  have hs : zv x * zv y = zv V * (one64 : Int) := by
    exact mulc (c := (D : Int)) (by omega) (mulc (c := (E : Int)) (by omega) (mulc hF0 (al_mulr hx.2 hy.2 hV.2 h)))
  have hz : zv (Core.dmul x y) = zv V := mul_zv hx.1 hy.1 hV.ne_nan hs
  exact ⟨fin_of ((notNaN_iff _).mp (dmul_out hx.1 hy.1)) hV.1 hz, by show zv (Core.dmul x y) * _ = _; rw [hz, hV.2]⟩
theorem zv_abs (x : UInt64) : (zv x).natAbs = zmag b64 (val64 x) := by unfold zv zval; rw [natAbs_signed]
/-- the quotient's parts -/
theorem div_parts {x y : UInt64} (hx : DFin x) (hy : DFin y) (hz : zv y ≠ 0) : ∃ s t c d q r, val64 x = .fin s c q ∧ val64 y = .fin t d r ∧ 0 < d ∧ b64.qmin ≤ q ∧ b64.qmin ≤ r ∧ zmag b64 (val64 x) = c * 2 ^ (q - b64.qmin).toNat ∧ zmag b64 (val64 y) = d * 2 ^ (r - b64.qmin).toNat ∧ val64 (Core.ddiv x y) = roundRatio b64 (s != t) c d (q - r) := by
  obtain ⟨s, c, q, ex⟩ := hx
  obtain ⟨t, d, r, ey⟩ := hy
  have fx := val64_fits x; have fy := val64_fits y
  rw [ex] at fx; rw [ey] at fy
  have hd : d ≠ 0 := fun h => hz (by unfold zv; rw [ey, h]; simp [zval, zmag, sgn, inUnits, signed])
  refine ⟨s, t, c, d, q, r, ex, ey, Nat.pos_of_ne_zero hd, fx.2.1, fy.2.1, by rw [ex]; rfl, by rw [ey]; rfl, ?_⟩
  rw [val64_ddiv, ex, ey]
  show (if d = 0 then _ else roundRatio b64 (s != t) c d (q - r)) = _
  rw [if_neg hd]
theorem div_units {c d V : Nat} {q r e : Int} (hq : b64.qmin ≤ q) (hr : b64.qmin ≤ r) (h1 : e ≤ b64.qmin) (h2 : e ≤ q - r) :
    inUnits c (q - r) e * 2 ^ (r - b64.qmin).toNat = (c * 2 ^ (q - b64.qmin).toNat * one64) * 2 ^ (b64.qmin - e).toNat ∧
      V * 2 ^ (b64.qmin - e).toNat * d * 2 ^ (r - b64.qmin).toNat = (V * (d * 2 ^ (r - b64.qmin).toNat)) * 2 ^ (b64.qmin - e).toNat := by
  refine ⟨?_, al_units⟩
  have hn : b64.qmin < 0 := by rw [qmin_b64]; decide
  unfold inUnits
  rw [← pow_qmin64, Nat.mul_assoc, Nat.mul_assoc, Nat.mul_assoc, ← Nat.pow_add, ← Nat.pow_add, ← Nat.pow_add]
  congr 2
  omega
theorem div_mag_le {x y V : UInt64} (hx : DFin x) (hy : DFin y) (hz : zv y ≠ 0) (hV : val64 V ≠ .nan) (h : (zv x).natAbs * one64 ≤ (zv V).natAbs * (zv y).natAbs) : (zv (Core.ddiv x y)).natAbs ≤ (zv V).natAbs := by
  obtain ⟨s, t, c, d, q, r, ex, ey, hd, hq, hr, mx, my, hv⟩ := div_parts hx hy hz
  rw [zv_abs, zv_abs, hv]
  rw [zv_abs, zv_abs, zv_abs, mx, my] at h
  refine zmag_roundRatio_le good_b64 hd (val64_fits V) hV (e0 := min b64.qmin (q - r)) (by omega) (by omega) ?_
  obtain ⟨u1, u2⟩ := div_units (c := c) (d := d) (V := zmag b64 (val64 V)) hq hr (e := min b64.qmin (q - r)) (by omega) (by omega)
  refine Nat.le_of_mul_le_mul_right (c := 2 ^ (r - b64.qmin).toNat) ?_ (Nat.two_pow_pos _)
  rw [u1, u2]
  exact Nat.mul_le_mul_right _ h
theorem div_mag_ge {x y V : UInt64} (hx : DFin x) (hy : DFin y) (hz : zv y ≠ 0) (h : (zv V).natAbs * (zv y).natAbs ≤ (zv x).natAbs * one64) : (zv V).natAbs ≤ (zv (Core.ddiv x y)).natAbs := by
  obtain ⟨s, t, c, d, q, r, ex, ey, hd, hq, hr, mx, my, hv⟩ := div_parts hx hy hz
  rw [zv_abs, zv_abs, hv]
  rw [zv_abs, zv_abs, zv_abs, mx, my] at h
  refine zmag_roundRatio_ge good_b64 hd (val64_fits V) (e0 := min b64.qmin (q - r)) (by omega) (by omega) ?_
  obtain ⟨u1, u2⟩ := div_units (c := c) (d := d) (V := zmag b64 (val64 V)) hq hr (e := min b64.qmin (q - r)) (by omega) (by omega)
  refine Nat.le_of_mul_le_mul_right (c := 2 ^ (r - b64.qmin).toNat) ?_ (Nat.two_pow_pos _)
  rw [u1, u2]
  exact Nat.mul_le_mul_right _ h
theorem zv_sgn (x : UInt64) : zv x = signed (sgn (val64 x)) (zv x).natAbs := by rw [zv_abs]; rfl
theorem div_sgn {x y : UInt64} (hx : DFin x) (hy : DFin y) (hz : zv y ≠ 0) : sgn (val64 (Core.ddiv x y)) = (sgn (val64 x) != sgn (val64 y)) := by
  obtain ⟨s, t, c, d, q, r, ex, ey, -, -, -, -, -, hv⟩ := div_parts hx hy hz
  rw [hv, sgn_roundRatio, ex, ey]; rfl
theorem sgn_pos {x : UInt64} (h : 0 < zv x) : sgn (val64 x) = false := by
  rw [zv_sgn] at h
  cases hs : sgn (val64 x) with
  | false => rfl
  | true => rw [hs] at h; simp [signed] at h; omega
theorem div_nonneg {x y : UInt64} (hx : DFin x) (hy : DFin y) (h1 : 0 < zv x) (h2 : 0 < zv y) : zv (Core.ddiv x y) = ((zv (Core.ddiv x y)).natAbs : Int) := by
  have h := div_sgn hx hy (Int.ne_of_gt h2)
  rw [sgn_pos h1, sgn_pos h2] at h
  rw [zv_sgn (Core.ddiv x y), h]; simp [signed]
theorem div_ge {x y V : UInt64} (hx : DFin x) (hy : DFin y) (h1 : 0 < zv x) (h2 : 0 < zv y) (hV : 0 ≤ zv V) (h : zv V * zv y ≤ zv x * (one64 : Int)) : zv V ≤ zv (Core.ddiv x y) := by
  have k : (zv V).natAbs * (zv y).natAbs ≤ (zv x).natAbs * one64 := by
    have e1 : ((zv V).natAbs : Int) = zv V := by omega
    have e2 : ((zv y).natAbs : Int) = zv y := by omega
    have e3 : ((zv x).natAbs : Int) = zv x := by omega
    refine Int.ofNat_le.mp ?_
    rw [Int.natCast_mul, Int.natCast_mul, e1, e2, e3]; exact h
  have := div_mag_ge hx hy (Int.ne_of_gt h2) k
  rw [div_nonneg hx hy h1 h2]; omega
theorem div_le {x y V : UInt64} (hx : DFin x) (hy : DFin y) (h1 : 0 < zv x) (h2 : 0 < zv y) (hn : val64 V ≠ .nan) (hV : 0 ≤ zv V) (h : zv x * (one64 : Int) ≤ zv V * zv y) : zv (Core.ddiv x y) ≤ zv V := by
  have k : (zv x).natAbs * one64 ≤ (zv V).natAbs * (zv y).natAbs := by
    have e1 : ((zv V).natAbs : Int) = zv V := by omega
    have e2 : ((zv y).natAbs : Int) = zv y := by omega
    have e3 : ((zv x).natAbs : Int) = zv x := by omega
    refine Int.ofNat_le.mp ?_
    rw [Int.natCast_mul, Int.natCast_mul, e1, e2, e3]; exact h
  have := div_mag_le hx hy (Int.ne_of_gt h2) hn k
  rw [div_nonneg hx hy h1 h2]; omega
theorem signed_inj {s t : Bool} {n : Nat} (hn : n ≠ 0) (h : signed s n = signed t n) : s = t := by
  cases s <;> cases t <;> simp [signed] at h ⊢ <;> omega
theorem xor_back {s t v : Bool} (h : s = (v != t)) : (s != t) = v := by cases s <;> cases t <;> cases v <;> simp_all
/-- the quotient's worth, where it is a double's -/
theorem div_zv {x y V : UInt64} (hx : DFin x) (hy : DFin y) (hz : zv y ≠ 0) (hV : DFin V) (h : zv x * (one64 : Int) = zv V * zv y) : zv (Core.ddiv x y) = zv V := by
  have ha : (zv x).natAbs * one64 = (zv V).natAbs * (zv y).natAbs := by
    have := congrArg Int.natAbs h
    rwa [Int.natAbs_mul, Int.natAbs_mul, Int.natAbs_natCast] at this
  have hm : (zv (Core.ddiv x y)).natAbs = (zv V).natAbs := Nat.le_antisymm (div_mag_le hx hy hz hV.ne_nan (Nat.le_of_eq ha)) (div_mag_ge hx hy hz (Nat.le_of_eq ha.symm))
  rw [zv_sgn (Core.ddiv x y), hm, div_sgn hx hy hz]
  by_cases h0 : (zv V).natAbs = 0
  · rw [h0, Int.natAbs_eq_zero.mp h0]; exact signed_zero _
  · have k : signed (sgn (val64 x)) ((zv x).natAbs * one64) = zv x * (one64 : Int) := by rw [signed_mul, ← zv_sgn]
    rw [ha] at k
    have k2 : signed (sgn (val64 V) != sgn (val64 y)) ((zv V).natAbs * (zv y).natAbs) = zv V * zv y := by rw [signed_xor, ← zv_sgn, ← zv_sgn]
    have e := xor_back (signed_inj (n := (zv V).natAbs * (zv y).natAbs) (Nat.mul_ne_zero h0 (fun q => hz (Int.natAbs_eq_zero.mp q))) (k.trans (h.trans k2.symm)))
    rw [e, ← zv_sgn]
theorem Ra.div {i j r : Int} {D E F k : Nat} {x y : UInt64} (hx : Ra i D x) (hy : Ra j E y) (hD : 0 < D) (hE : 0 < E) (hj : j ≠ 0) (hr : r.natAbs < 9007199254740992) (hF : F = 2 ^ k) (hk : k ≤ 1000) (h : i * (E : Int) * (F : Int) = r * (j * (D : Int))) : Ra r F (FP.ddiv x y) := by
  obtain ⟨V, hV⟩ := rep hr hF hk
  have hF0 : (F : Int) ≠ 0 := by rw [hF]; exact Int.ne_of_gt (Int.natCast_pos.mpr (Nat.two_pow_pos k))
  have hy0 : zv y ≠ 0 := fun q => by
    have := hy.2; rw [q, Int.zero_mul] at this
    exact (Int.mul_ne_zero hj (Int.ne_of_gt oz)) this.symm
  have hs : zv x * (one64 : Int) = zv V * zv y := by
    exact mulc (c := (D : Int)) (by omega) (mulc (c := (E : Int)) (by omega) (mulc hF0 (al_div hx.2 hy.2 hV.2 h)))
  have hz : zv (Core.ddiv x y) = zv V := div_zv hx.1 hy.1 hy0 hV.1 hs
  have hyz : ¬ DZero y := fun q => hy0 (by unfold zv; exact DZero.zval q)
  exact ⟨fin_of ((notNaN_iff _).mp (ddiv_out hx.1.notNaN hy.1 hyz)) hV.1 hz, by show zv (Core.ddiv x y) * _ = _; rw [hz, hV.2]⟩
/-- two quotients of one ratio are of one worth -/
theorem div_alike {x y x' y' : UInt64} (hx : DFin x) (hy : DFin y) (hx' : DFin x') (hy' : DFin y') (hz : zv y ≠ 0) (hz' : zv y' ≠ 0) (h : zv x * zv y' = zv x' * zv y) : zv (Core.ddiv x y) = zv (Core.ddiv x' y') := by
  have ha : (zv x).natAbs * (zv y').natAbs = (zv x').natAbs * (zv y).natAbs := by
    have := congrArg Int.natAbs h
    rwa [Int.natAbs_mul, Int.natAbs_mul] at this
  have hsg := div_sgn hx hy hz
  have hsg' := div_sgn hx' hy' hz'
  obtain ⟨s, t, c, d, q, r, ex, ey, hd, hq, hr, mx, my, hv⟩ := div_parts hx hy hz
  obtain ⟨s', t', c', d', q', r', ex', ey', hd', hq', hr', mx', my', hv'⟩ := div_parts hx' hy' hz'
  have hm : (zv (Core.ddiv x y)).natAbs = (zv (Core.ddiv x' y')).natAbs := by
    rw [zv_abs, zv_abs, zv_abs, zv_abs, mx, my, mx', my'] at ha
    rw [zv_abs, zv_abs, hv, hv']
    have e : roundRatio b64 (s != t) c d (q - r) = roundRatio b64 (s != t) c' d' (q' - r') := by
      refine roundRatio_congr hd hd' ?_
      have g1 : ∃ T, (q - b64.qmin).toNat + (r' - b64.qmin).toNat = (q - r - (q' - r')).toNat + T ∧ (q' - b64.qmin).toNat + (r - b64.qmin).toNat = (q' - r' - (q - r)).toNat + T := ⟨(min ((q - b64.qmin) + (r' - b64.qmin)) ((q' - b64.qmin) + (r - b64.qmin))).toNat, by omega, by omega⟩
      obtain ⟨T, g1, g2⟩ := g1
      refine Nat.eq_of_mul_eq_mul_right (Nat.two_pow_pos T) ?_
      calc c * d' * 2 ^ (q - r - (q' - r')).toNat * 2 ^ T = (c * 2 ^ (q - b64.qmin).toNat) * (d' * 2 ^ (r' - b64.qmin).toNat) := by rw [Nat.mul_assoc, ← Nat.pow_add, ← g1, Nat.pow_add]; ac_rfl
        _ = (c' * 2 ^ (q' - b64.qmin).toNat) * (d * 2 ^ (r - b64.qmin).toNat) := ha
        _ = c' * d * 2 ^ (q' - r' - (q - r)).toNat * 2 ^ T := by rw [Nat.mul_assoc (c' * d), ← Nat.pow_add, ← g2, Nat.pow_add]; ac_rfl
    rw [e]
    rcases roundRatio_cases b64 (s != t) c' d' (q' - r') with ⟨a, b, g⟩ | g <;> rcases roundRatio_cases b64 (s' != t') c' d' (q' - r') with ⟨a', b', g'⟩ | g'
    all_goals first
      | (have := negate_roundRatio b64 (s' != t') c' d' (q' - r')
         by_cases w : (s != t) = (s' != t')
         · rw [w]
         · rw [show (s != t) = !(s' != t') by cases s <;> cases t <;> cases s' <;> cases t' <;> simp_all, ← this]
           rw [g']; rfl)
  rw [zv_sgn (Core.ddiv x y), zv_sgn (Core.ddiv x' y'), hm, hsg, hsg']
  by_cases h0 : (zv (Core.ddiv x' y')).natAbs = 0
  · rw [h0, signed_zero, signed_zero]
  · by_cases hx0 : (zv x').natAbs = 0
    · exfalso; apply h0
      have := div_mag_le (V := (0 : UInt64)) hx' hy' hz' (by rw [val64_zero]; exact Datum.noConfusion) (by rw [hx0, Nat.zero_mul]; exact Nat.zero_le _)
      have z0 : zv 0 = 0 := zval64_zero
      rw [z0] at this; simpa using this
    · congr 1
      have hy1 : (zv y).natAbs ≠ 0 := fun q => hz (Int.natAbs_eq_zero.mp q)
      have k : signed (sgn (val64 x) != sgn (val64 y')) ((zv x').natAbs * (zv y).natAbs) = signed (sgn (val64 x') != sgn (val64 y)) ((zv x').natAbs * (zv y).natAbs) := by
        rw [← ha, signed_xor, ha, signed_xor, ← zv_sgn, ← zv_sgn, ← zv_sgn, ← zv_sgn]; exact h
      have k2 := signed_inj (Nat.mul_ne_zero hx0 hy1) k
      revert k2
      generalize sgn (val64 x) = a; generalize sgn (val64 y) = b; generalize sgn (val64 x') = a'; generalize sgn (val64 y') = b'
      cases a <;> cases b <;> cases a' <;> cases b' <;> simp
/-- comparisons -/
theorem cv_lt {x y : UInt64} (nx : val64 x ≠ .nan) (ny : val64 y ≠ .nan) (h : zv x < zv y) (o : Jvm.ClassFile.CmpOp) : Jvm.Op.cmpValue (FP.dcmp x y) o = -1 := by
  rw [show FP.dcmp x y = some .lt from dcmp_lt.mpr ⟨nx, ny, h⟩]; cases o <;> rfl
theorem cv_eq {x y : UInt64} (nx : val64 x ≠ .nan) (ny : val64 y ≠ .nan) (h : zv x = zv y) (o : Jvm.ClassFile.CmpOp) : Jvm.Op.cmpValue (FP.dcmp x y) o = 0 := by
  rw [show FP.dcmp x y = some .eq from dcmp_eq.mpr ⟨nx, ny, h⟩]; cases o <;> rfl
theorem cv_gt {x y : UInt64} (nx : val64 x ≠ .nan) (ny : val64 y ≠ .nan) (h : zv y < zv x) (o : Jvm.ClassFile.CmpOp) : Jvm.Op.cmpValue (FP.dcmp x y) o = 1 := by
  rw [show FP.dcmp x y = some .gt from dcmp_gt.mpr ⟨nx, ny, h⟩]; cases o <;> rfl
theorem cv_le {x y : UInt64} (nx : val64 x ≠ .nan) (ny : val64 y ≠ .nan) (h : zv x ≤ zv y) (o : Jvm.ClassFile.CmpOp) : ¬ (0 : Int32) < Jvm.Op.cmpValue (FP.dcmp x y) o := by
  rcases Int.lt_or_eq_of_le h with q | q
  · rw [cv_lt nx ny q]; decide
  · rw [cv_eq nx ny q]; decide
theorem cv_ge {x y : UInt64} (nx : val64 x ≠ .nan) (ny : val64 y ≠ .nan) (h : zv y ≤ zv x) (o : Jvm.ClassFile.CmpOp) : ¬ Jvm.Op.cmpValue (FP.dcmp x y) o < (0 : Int32) := by
  rcases Int.lt_or_eq_of_le h with q | q
  · rw [cv_gt nx ny q]; decide
  · rw [cv_eq nx ny q.symm]; decide
theorem cv_lt' {x y : UInt64} (nx : val64 x ≠ .nan) (ny : val64 y ≠ .nan) (h : zv x < zv y) (o : Jvm.ClassFile.CmpOp) : Jvm.Op.cmpValue (FP.dcmp x y) o < (0 : Int32) := by rw [cv_lt nx ny h]; decide
theorem cv_gt' {x y : UInt64} (nx : val64 x ≠ .nan) (ny : val64 y ≠ .nan) (h : zv y < zv x) (o : Jvm.ClassFile.CmpOp) : (0 : Int32) < Jvm.Op.cmpValue (FP.dcmp x y) o := by rw [cv_gt nx ny h]; decide
theorem zv_lt {i j : Int} {D : Nat} {x y : UInt64} (hx : Ra i D x) (hy : Ra j D y) (hD : 0 < D) (h : i < j) : zv x < zv y := by
  refine Int.lt_of_mul_lt_mul_right (a := (D : Int)) ?_ (by omega)
  rw [hx.2, hy.2]; exact Int.mul_lt_mul_of_pos_right h oz
theorem zv_eq {i j : Int} {D : Nat} {x y : UInt64} (hx : Ra i D x) (hy : Ra j D y) (hD : 0 < D) (h : i = j) : zv x = zv y :=
  mulc (c := (D : Int)) (by omega) (by rw [hx.2, hy.2, h])
theorem Ra.lt {i j : Int} {D : Nat} {x y : UInt64} (hx : Ra i D x) (hy : Ra j D y) (hD : 0 < D) (h : i < j) (o : Jvm.ClassFile.CmpOp) : Jvm.Op.cmpValue (FP.dcmp x y) o = -1 := cv_lt hx.ne_nan hy.ne_nan (zv_lt hx hy hD h) o
theorem Ra.gt {i j : Int} {D : Nat} {x y : UInt64} (hx : Ra i D x) (hy : Ra j D y) (hD : 0 < D) (h : j < i) (o : Jvm.ClassFile.CmpOp) : Jvm.Op.cmpValue (FP.dcmp x y) o = 1 := cv_gt hx.ne_nan hy.ne_nan (zv_lt hy hx hD h) o
theorem Ra.eq {i j : Int} {D : Nat} {x y : UInt64} (hx : Ra i D x) (hy : Ra j D y) (hD : 0 < D) (h : i = j) (o : Jvm.ClassFile.CmpOp) : Jvm.Op.cmpValue (FP.dcmp x y) o = 0 := cv_eq hx.ne_nan hy.ne_nan (zv_eq hx hy hD h) o
theorem zv_le {i j : Int} {D : Nat} {x y : UInt64} (hx : Ra i D x) (hy : Ra j D y) (hD : 0 < D) (h : i ≤ j) : zv x ≤ zv y := by
  rcases Int.lt_or_eq_of_le h with q | q
  · exact Int.le_of_lt (zv_lt hx hy hD q)
  · exact Int.le_of_eq (zv_eq hx hy hD q)
theorem Ra.le {i j : Int} {D : Nat} {x y : UInt64} (hx : Ra i D x) (hy : Ra j D y) (hD : 0 < D) (h : i ≤ j) (o : Jvm.ClassFile.CmpOp) : ¬ (0 : Int32) < Jvm.Op.cmpValue (FP.dcmp x y) o := cv_le hx.ne_nan hy.ne_nan (zv_le hx hy hD h) o
theorem Ra.ge {i j : Int} {D : Nat} {x y : UInt64} (hx : Ra i D x) (hy : Ra j D y) (hD : 0 < D) (h : j ≤ i) (o : Jvm.ClassFile.CmpOp) : ¬ Jvm.Op.cmpValue (FP.dcmp x y) o < (0 : Int32) := cv_ge hx.ne_nan hy.ne_nan (zv_le hy hx hD h) o
theorem Ra.lt' {i j : Int} {D : Nat} {x y : UInt64} (hx : Ra i D x) (hy : Ra j D y) (hD : 0 < D) (h : i < j) (o : Jvm.ClassFile.CmpOp) : Jvm.Op.cmpValue (FP.dcmp x y) o < (0 : Int32) := cv_lt' hx.ne_nan hy.ne_nan (zv_lt hx hy hD h) o
theorem Ra.gt' {i j : Int} {D : Nat} {x y : UInt64} (hx : Ra i D x) (hy : Ra j D y) (hD : 0 < D) (h : j < i) (o : Jvm.ClassFile.CmpOp) : (0 : Int32) < Jvm.Op.cmpValue (FP.dcmp x y) o := cv_gt' hx.ne_nan hy.ne_nan (zv_lt hy hx hD h) o
theorem Ra.of_int {i : Int} {x : UInt64} (h : DInt i x) (hf : DFin x) : Ra i 1 x := ⟨hf, by show zval b64 (val64 x) * _ = _; rw [DInt_zval h]; show _ * (1 : Int) = _; rw [Int.mul_one]⟩
theorem Ra.i2d (a : Int32) : Ra a.toInt 1 (FP.i2d a) := Ra.of_int (i2d_int a) (Core.i2d_fin a)
theorem Ra.l2d {a : Int64} (h : a.toInt.natAbs ≤ 9007199254740992) : Ra a.toInt 1 (FP.l2d a) := Ra.of_int (l2d_int h) (Core.l2d_fin a)
/-- a written constant -/
theorem Ra.lit {x : UInt64} {s : Bool} {c D n : Nat} {q i : Int} {k : Nat} (h : val64 x = .fin s c q) (hD : D = 2 ^ k) (hq : q = -((k + n : Nat) : Int)) (hk : k + n ≤ 1074) (e : signed s c = i * ((2 ^ n : Nat) : Int)) : Ra i D x := by
  refine ⟨⟨s, c, q, h⟩, ?_⟩
  unfold zv
  rw [h]
  show signed s (inUnits c q b64.qmin) * _ = _
  unfold inUnits
  have e2 : n + (q - b64.qmin).toNat + k = 1074 := by rw [qmin_b64]; omega
  rw [signed_mul, e, hD, Int.mul_assoc, Int.mul_assoc, ← Int.natCast_mul, ← Int.natCast_mul, ← Nat.pow_add, ← Nat.pow_add, ← Nat.add_assoc, e2]
  rfl
theorem zv_neg (x : UInt64) : zv (FP.dneg x) = -zv x := by unfold zv; rw [Jvm.FP.val64_dneg, zval_negate]
theorem Ra.neg {i : Int} {D : Nat} {x : UInt64} (h : Ra i D x) : Ra (-i) D (FP.dneg x) := by
  obtain ⟨⟨s, c, q, ex⟩, e⟩ := h
  exact ⟨⟨!s, c, q, by rw [Jvm.FP.val64_dneg, ex]; rfl⟩, by rw [zv_neg, Int.neg_mul, e, Int.neg_mul]⟩
/-- exact products of longs -/
theorem lmul_of {x y : Int64} {a b : Int} (hx : x.toInt = a) (hy : y.toInt = b) (h1 : -9223372036854775808 ≤ a * b) (h2 : a * b < 9223372036854775808) : (x * y).toInt = a * b := by
  rw [int64_mul (by rw [hx, hy]; exact h1) (by rw [hx, hy]; exact h2), hx, hy]
theorem ladd_of {x y : Int64} {a b : Int} (hx : x.toInt = a) (hy : y.toInt = b) (h1 : -9223372036854775808 ≤ a + b) (h2 : a + b < 9223372036854775808) : (x + y).toInt = a + b := by
  rw [int64_add (by rw [hx, hy]; exact h1) (by rw [hx, hy]; exact h2), hx, hy]
theorem lsub_of {x y : Int64} {a b : Int} (hx : x.toInt = a) (hy : y.toInt = b) (h1 : -9223372036854775808 ≤ a - b) (h2 : a - b < 9223372036854775808) : (x - y).toInt = a - b := by
  rw [int64_sub (by rw [hx, hy]; exact h1) (by rw [hx, hy]; exact h2), hx, hy]
theorem lneg_of {x : Int64} {a : Int} (hx : x.toInt = a) (h1 : -9223372036854775808 < a) : (-x).toInt = -a := by
  rw [int64_neg (by rw [hx]; exact h1), hx]
theorem i2l_of {x : Int32} {a : Int} (hx : x.toInt = a) : x.toInt64.toInt = a := by rw [Int32.toInt_toInt64, hx]
theorem fin_of_le {x V : UInt64} (hn : val64 x ≠ .nan) (hV : DFin V) (h : (zv x).natAbs ≤ (zv V).natAbs) : DFin x := by
  cases hx : val64 x with
  | nan => exact absurd hx hn
  | fin s c q => exact ⟨s, c, q, hx⟩
  | inf s =>
    exfalso
    have h1 := hV.zval_lt
    rw [zv_abs, zv_abs, hx] at h
    exact absurd (Nat.lt_of_le_of_lt h h1) (Nat.lt_irrefl _)
/-- a bound on the worth bounds the bits -/
theorem mag_of {x : UInt64} {n : Nat} (hx : DFin x) (h : (zv x).natAbs ≤ 2 ^ n * one64) : Mag64 (n + 1024) x := by
  have z := zmag_bits hx.ne_nan
  rw [zv_abs, z] at h
  have hs : unitsOf b64 ((n + 1024) * b64.tails) = b64.tails * 2 ^ (n + 1024 - 1) := unitsOf_start (by omega)
  have ho : 2 ^ n * one64 < b64.tails * 2 ^ (n + 1024 - 1) := by
    rw [tails_b64, ← pow_qmin64, ← Nat.pow_add, ← Nat.pow_add, qmin_b64]
    exact Nat.pow_lt_pow_right (by decide) (by omega)
  have hl : unitsOf b64 (x.toNat % 2 ^ 63) < unitsOf b64 ((n + 1024) * b64.tails) := by rw [hs]; exact Nat.lt_of_le_of_lt h ho
  have hb := unitsOf_lt_iff.mp hl
  rw [tails_b64] at hb
  unfold Mag64
  exact hb
theorem Ra.mag {i : Int} {D n : Nat} {x : UInt64} (h : Ra i D x) (hD : 0 < D) (hi : i.natAbs ≤ 2 ^ n * D) : Mag64 (n + 1024) x := by
  refine mag_of h.1 (Nat.le_of_mul_le_mul_right (c := D) ?_ hD)
  have e := congrArg Int.natAbs h.2
  rw [Int.natAbs_mul, Int.natAbs_mul, Int.natAbs_natCast, Int.natAbs_natCast] at e
  rw [e]
  exact al_mag hi
theorem ra_zero : Ra 0 1 (0 : UInt64) := ⟨⟨_, _, _, val64_zero⟩, by rw [show zv 0 = 0 from zval64_zero, Int.zero_mul, Int.zero_mul]⟩
theorem ra_one : Ra 1 1 (4607182418800017408 : UInt64) := Ra.lit (s := false) (c := 4503599627370496) (q := -52) (k := 0) (n := 52) (by decide +kernel) rfl (by decide) (by decide) (by decide)
theorem ra_two : Ra 2 1 (4611686018427387904 : UInt64) := Ra.lit (s := false) (c := 4503599627370496) (q := -51) (k := 0) (n := 51) (by decide +kernel) rfl (by decide) (by decide) (by decide)
end Jvm.OwnFP
namespace Jvm.Pilot.@@N@@
open Jvm Jvm.ClassFile Sem Op Lib Jvm.Free Jvm.Stand Jvm.LawKit Jvm.RoadKit Bundle Jvm.Pilot.@@N@@.Jvm.D
theorem d1_0 : decode prog_7_method_4_code 0 = .ok (.aload_n 0, 1) := by decide +kernel
theorem d1_1 : decode prog_7_method_4_code 1 = .ok (.getstatic 3, 3) := by decide +kernel
theorem d1_4 : decode prog_7_method_4_code 4 = .ok (.if_acmp .ne 17, 3) := by decide +kernel
theorem d1_7 : decode prog_7_method_4_code 7 = .ok (.dload_n 1, 1) := by decide +kernel
theorem d1_8 : decode prog_7_method_4_code 8 = .ok (.dload_n 3, 1) := by decide +kernel
theorem d1_9 : decode prog_7_method_4_code 9 = .ok (.dcmp .g, 1) := by decide +kernel
theorem d1_10 : decode prog_7_method_4_code 10 = .ok (.ifCond .ge 7, 3) := by decide +kernel
theorem d1_13 : decode prog_7_method_4_code 13 = .ok (.iconst 1, 1) := by decide +kernel
theorem d1_14 : decode prog_7_method_4_code 14 = .ok (.goto 18, 3) := by decide +kernel
theorem d1_32 : decode prog_7_method_4_code 32 = .ok (.ireturn, 1) := by decide +kernel
theorem pn_com_example_hedge_hedge_Direction : plainName "com/example/hedge/hedge/Direction" = true := by first | (simp [plainName, overriddenIn]; done) | decide +kernel
theorem ef_1_RDD (m : MethodId) (x0 : Addr) (x1 : UInt64) (x2 : UInt64) : entryFrame m #[(.ref x0), (.double x1), (.double x2)] 5 = mkF m 0 #[.val (.ref x0), .val (.double x1), .second, .val (.double x2), .second] [] := by first | (simp [entryFrame, mkF, argsToLocals, Value.category]; done) | rfl
def Q_rm1m0 (Z : State) (t0 : Addr) (d0 : UInt64) (d1 : UInt64) (h0 : Heap) (n0 : Nat) (v : Option Value) (h : Heap) (L : List Loc) : Prop := v = some (.int (1 : Int32)) ∧ Fr n0 L ∧ h = h0
set_option maxRecDepth 65536 in
set_option maxHeartbeats 40000000 in
theorem rm1m0 (l : Launch) (Z : State) (a0 : Array Value) (hw : ∀ d ∈ tables_1, d.before a0 Z = true) (ws : List Jvm.Cond) (t0 : Addr) (d0 : UInt64) (d1 : UInt64) (h0 : Heap) (n0 : Nat) (Z0 : n0 ≤ h0.size) (S_MIN : Sta Z h0 "com/example/hedge/hedge/Direction" "MIN" "Lcom/example/hedge/hedge/Direction;" (.ref t0)) (hd9 : (cmpValue (FP.dcmp d0 d1) .g) = (-1 : Int32)) :
    MetFree l (⟨"com/example/hedge/hedge/Direction", "improves", "(DD)Z"⟩ : MethodName) (head1 (Jvm.Cond.code (⟨"com/example/hedge/hedge/Direction", "improves", "(DD)Z"⟩ : MethodName) prog_7_method_4_code 5 (some .boolean) :: ws) ({ frames := 0, cells := 0, slots := 0, locals := 0 } : Room)) (fun a U => a = #[(.ref t0), (.double d0), (.double d1)] ∧ Z.Warmed39 U.vm ∧ U.heap = h0) (fun _ _ _ _ _ => True) (fun _ U o U' => ∃ v L, o = .returned v ∧ Q_rm1m0 Z t0 d0 d1 h0 n0 v U'.heap L ∧ FrameEnd U o U' L ({ frames := 0, cells := 0, slots := 0, locals := 0 } : Room).cells ({ frames := 0, cells := 0, slots := 0, locals := 0 } : Room).slots) := by
  refine MetFree.of_bodySF (plainFor_of_name pn_com_example_hedge_hedge_Direction) hisR ?_
  intro p e s m args below meth c s₁ Bd hml0 hP hK
  obtain ⟨rfl, hZ, hh⟩ := hP
  have hx := Bd.exec
  have hby := Bd.bytes
  have hml : c.maxLocals = 5 := hml0
  have hown : s.vm.findClass "com/example/hedge/hedge/Direction" = some m.cls := findClass_of_methodNamed Bd.named
  have hnm := (name_of_methodNamed Bd.named Bd.method).1
  have X0 : Stand p l e ({ frames := 0, cells := 0, slots := 0, locals := 0 } : Room) s m #[(.ref t0), (.double d0), (.double d1)] below meth c s₁ [] 0 0 := Stand.of_body Bd
  have e0 : s₁.heap = h0 := by rw [← hh, Bd.state]; rfl
  have N0 := Fr.nil n0
  have pre0 : ∀ t, Steps p.tables e below (s₁.setTop (mkF m 0 #[.val (.ref t0), .val (.double d0), .second, .val (.double d1), .second] [])) t → Steps p.tables e below (s₁.setTop (entryFrame m #[(.ref t0), (.double d0), (.double d1)] 5)) t := fun t k => castTop (ef_1_RDD m t0 d0 d1) k
  obtain ⟨T1, X1, e1, st1⟩ := getS2 X0 hx hZ hown (host := "") (Or.inl (hw _ (List.mem_of_getElem? (i := 8) rfl))) Via.refl e0 S_MIN (g := (mkF m 1 #[.val (.ref t0), .val (.double d0), .second, .val (.double d1), .second] [(.ref t0)])) rfl (hb hby d1_1)
  obtain ⟨fs, hr, hrun, hended, hW, hsame⟩ := X1.leave (v := some (.int (1 : Int32))) (fun h => by rw [Bd.returns] at h; cases h)
  refine ⟨_, _, pre0 _ ?_, hrun, hended, _, _, rfl, ?_, ⟨_, rfl⟩, hW, hsame.mono (by decide) (by decide)⟩
  · show Steps p.tables e below (s₁.setTop (mkF m 0 #[.val (.ref t0), .val (.double d0), .second, .val (.double d1), .second] [])) _
    refine XS.aloadN X0.here hx rfl (hb hby d1_0) rfl rfl ?_
    show Steps p.tables e below (s₁.setTop (mkF m 1 #[.val (.ref t0), .val (.double d0), .second, .val (.double d1), .second] [(.ref t0)])) _
    refine st1 _ ?_
    show Steps p.tables e below (T1.setTop (mkF m 4 #[.val (.ref t0), .val (.double d0), .second, .val (.double d1), .second] [(.ref t0), (.ref t0)])) _
    refine Jvm.RoadKit.acmp (g := (mkF m 4 #[.val (.ref t0), .val (.double d0), .second, .val (.double d1), .second] [(.ref t0), (.ref t0)])) X1 hx rfl rfl rfl (pc0 := 4) (pc' := 7) (same := true) rfl (hb hby d1_4) rfl (decide_eq_true rfl) (by decide) (by decide) ?_
    show Steps p.tables e below (T1.setTop (mkF m 7 #[.val (.ref t0), .val (.double d0), .second, .val (.double d1), .second] [])) _
    refine XS.dloadN X1.here hx rfl (hb hby d1_7) rfl ?_
    show Steps p.tables e below (T1.setTop (mkF m 8 #[.val (.ref t0), .val (.double d0), .second, .val (.double d1), .second] [(.double d0)])) _
    refine XS.dloadN X1.here hx rfl (hb hby d1_8) rfl ?_
    show Steps p.tables e below (T1.setTop (mkF m 9 #[.val (.ref t0), .val (.double d0), .second, .val (.double d1), .second] [(.double d1), (.double d0)])) _
    refine XS.dcmpS X1.here hx rfl (hb hby d1_9) rfl (v := (-1 : Int32)) hd9 ?_
    show Steps p.tables e below (T1.setTop (mkF m 10 #[.val (.ref t0), .val (.double d0), .second, .val (.double d1), .second] [(.int (-1 : Int32))])) _
    refine XS.ifNo X1.here hx rfl (hb hby d1_10) rfl ((if0 _ _).trans (tlt (by decide : (-1 : Int32) < (0 : Int32))).2.1) ?_
    show Steps p.tables e below (T1.setTop (mkF m 13 #[.val (.ref t0), .val (.double d0), .second, .val (.double d1), .second] [])) _
    refine XS.iconst X1.here hx rfl (hb hby d1_13) ?_
    show Steps p.tables e below (T1.setTop (mkF m 14 #[.val (.ref t0), .val (.double d0), .second, .val (.double d1), .second] [(.int (1 : Int32))])) _
    refine XS.goto X1.here hx rfl (pc0 := 14) (pc' := 32) rfl (hb hby d1_14) (by decide) (by decide) ?_
    show Steps p.tables e below (T1.setTop (mkF m 32 #[.val (.ref t0), .val (.double d0), .second, .val (.double d1), .second] [(.int (1 : Int32))])) _
    exact retN X1 hx (t := .boolean) Bd.returns (by simp) (hb hby d1_32) hr
  · show Q_rm1m0 Z t0 d0 d1 h0 n0 _ T1.heap _
    rw [e1]
    exact ⟨rfl, N0, rfl⟩
theorem d1_17 : decode prog_7_method_4_code 17 = .ok (.iconst 0, 1) := by decide +kernel
theorem d1_18 : decode prog_7_method_4_code 18 = .ok (.goto 14, 3) := by decide +kernel
def Q_rm1m1 (Z : State) (t0 : Addr) (d0 : UInt64) (d1 : UInt64) (h0 : Heap) (n0 : Nat) (v : Option Value) (h : Heap) (L : List Loc) : Prop := v = some (.int (0 : Int32)) ∧ Fr n0 L ∧ h = h0
set_option maxRecDepth 65536 in
set_option maxHeartbeats 40000000 in
theorem rm1m1 (l : Launch) (Z : State) (a0 : Array Value) (hw : ∀ d ∈ tables_1, d.before a0 Z = true) (ws : List Jvm.Cond) (t0 : Addr) (d0 : UInt64) (d1 : UInt64) (h0 : Heap) (n0 : Nat) (Z0 : n0 ≤ h0.size) (S_MIN : Sta Z h0 "com/example/hedge/hedge/Direction" "MIN" "Lcom/example/hedge/hedge/Direction;" (.ref t0)) (hd9 : (cmpValue (FP.dcmp d0 d1) .g) = (0 : Int32)) :
    MetFree l (⟨"com/example/hedge/hedge/Direction", "improves", "(DD)Z"⟩ : MethodName) (head1 (Jvm.Cond.code (⟨"com/example/hedge/hedge/Direction", "improves", "(DD)Z"⟩ : MethodName) prog_7_method_4_code 5 (some .boolean) :: ws) ({ frames := 0, cells := 0, slots := 0, locals := 0 } : Room)) (fun a U => a = #[(.ref t0), (.double d0), (.double d1)] ∧ Z.Warmed39 U.vm ∧ U.heap = h0) (fun _ _ _ _ _ => True) (fun _ U o U' => ∃ v L, o = .returned v ∧ Q_rm1m1 Z t0 d0 d1 h0 n0 v U'.heap L ∧ FrameEnd U o U' L ({ frames := 0, cells := 0, slots := 0, locals := 0 } : Room).cells ({ frames := 0, cells := 0, slots := 0, locals := 0 } : Room).slots) := by
  refine MetFree.of_bodySF (plainFor_of_name pn_com_example_hedge_hedge_Direction) hisR ?_
  intro p e s m args below meth c s₁ Bd hml0 hP hK
  obtain ⟨rfl, hZ, hh⟩ := hP
  have hx := Bd.exec
  have hby := Bd.bytes
  have hml : c.maxLocals = 5 := hml0
  have hown : s.vm.findClass "com/example/hedge/hedge/Direction" = some m.cls := findClass_of_methodNamed Bd.named
  have hnm := (name_of_methodNamed Bd.named Bd.method).1
  have X0 : Stand p l e ({ frames := 0, cells := 0, slots := 0, locals := 0 } : Room) s m #[(.ref t0), (.double d0), (.double d1)] below meth c s₁ [] 0 0 := Stand.of_body Bd
  have e0 : s₁.heap = h0 := by rw [← hh, Bd.state]; rfl
  have N0 := Fr.nil n0
  have pre0 : ∀ t, Steps p.tables e below (s₁.setTop (mkF m 0 #[.val (.ref t0), .val (.double d0), .second, .val (.double d1), .second] [])) t → Steps p.tables e below (s₁.setTop (entryFrame m #[(.ref t0), (.double d0), (.double d1)] 5)) t := fun t k => castTop (ef_1_RDD m t0 d0 d1) k
  obtain ⟨T1, X1, e1, st1⟩ := getS2 X0 hx hZ hown (host := "") (Or.inl (hw _ (List.mem_of_getElem? (i := 8) rfl))) Via.refl e0 S_MIN (g := (mkF m 1 #[.val (.ref t0), .val (.double d0), .second, .val (.double d1), .second] [(.ref t0)])) rfl (hb hby d1_1)
  obtain ⟨fs, hr, hrun, hended, hW, hsame⟩ := X1.leave (v := some (.int (0 : Int32))) (fun h => by rw [Bd.returns] at h; cases h)
  refine ⟨_, _, pre0 _ ?_, hrun, hended, _, _, rfl, ?_, ⟨_, rfl⟩, hW, hsame.mono (by decide) (by decide)⟩
  · show Steps p.tables e below (s₁.setTop (mkF m 0 #[.val (.ref t0), .val (.double d0), .second, .val (.double d1), .second] [])) _
    refine XS.aloadN X0.here hx rfl (hb hby d1_0) rfl rfl ?_
    show Steps p.tables e below (s₁.setTop (mkF m 1 #[.val (.ref t0), .val (.double d0), .second, .val (.double d1), .second] [(.ref t0)])) _
    refine st1 _ ?_
    show Steps p.tables e below (T1.setTop (mkF m 4 #[.val (.ref t0), .val (.double d0), .second, .val (.double d1), .second] [(.ref t0), (.ref t0)])) _
    refine Jvm.RoadKit.acmp (g := (mkF m 4 #[.val (.ref t0), .val (.double d0), .second, .val (.double d1), .second] [(.ref t0), (.ref t0)])) X1 hx rfl rfl rfl (pc0 := 4) (pc' := 7) (same := true) rfl (hb hby d1_4) rfl (decide_eq_true rfl) (by decide) (by decide) ?_
    show Steps p.tables e below (T1.setTop (mkF m 7 #[.val (.ref t0), .val (.double d0), .second, .val (.double d1), .second] [])) _
    refine XS.dloadN X1.here hx rfl (hb hby d1_7) rfl ?_
    show Steps p.tables e below (T1.setTop (mkF m 8 #[.val (.ref t0), .val (.double d0), .second, .val (.double d1), .second] [(.double d0)])) _
    refine XS.dloadN X1.here hx rfl (hb hby d1_8) rfl ?_
    show Steps p.tables e below (T1.setTop (mkF m 9 #[.val (.ref t0), .val (.double d0), .second, .val (.double d1), .second] [(.double d1), (.double d0)])) _
    refine XS.dcmpS X1.here hx rfl (hb hby d1_9) rfl (v := (0 : Int32)) hd9 ?_
    show Steps p.tables e below (T1.setTop (mkF m 10 #[.val (.ref t0), .val (.double d0), .second, .val (.double d1), .second] [(.int (0 : Int32))])) _
    refine XS.ifYes X1.here hx rfl (pc0 := 10) (pc' := 17) rfl (hb hby d1_10) rfl ((if0 _ _).trans (flt (by decide : ¬ ((0 : Int32) < (0 : Int32)))).2.1) (by decide) (by decide) ?_
    show Steps p.tables e below (T1.setTop (mkF m 17 #[.val (.ref t0), .val (.double d0), .second, .val (.double d1), .second] [])) _
    refine XS.iconst X1.here hx rfl (hb hby d1_17) ?_
    show Steps p.tables e below (T1.setTop (mkF m 18 #[.val (.ref t0), .val (.double d0), .second, .val (.double d1), .second] [(.int (0 : Int32))])) _
    refine XS.goto X1.here hx rfl (pc0 := 18) (pc' := 32) rfl (hb hby d1_18) (by decide) (by decide) ?_
    show Steps p.tables e below (T1.setTop (mkF m 32 #[.val (.ref t0), .val (.double d0), .second, .val (.double d1), .second] [(.int (0 : Int32))])) _
    exact retN X1 hx (t := .boolean) Bd.returns (by simp) (hb hby d1_32) hr
  · show Q_rm1m1 Z t0 d0 d1 h0 n0 _ T1.heap _
    rw [e1]
    exact ⟨rfl, N0, rfl⟩
def Q_rm1m2 (Z : State) (t0 : Addr) (d0 : UInt64) (d1 : UInt64) (h0 : Heap) (n0 : Nat) (v : Option Value) (h : Heap) (L : List Loc) : Prop := v = some (.int (0 : Int32)) ∧ Fr n0 L ∧ h = h0
set_option maxRecDepth 65536 in
set_option maxHeartbeats 40000000 in
theorem rm1m2 (l : Launch) (Z : State) (a0 : Array Value) (hw : ∀ d ∈ tables_1, d.before a0 Z = true) (ws : List Jvm.Cond) (t0 : Addr) (d0 : UInt64) (d1 : UInt64) (h0 : Heap) (n0 : Nat) (Z0 : n0 ≤ h0.size) (S_MIN : Sta Z h0 "com/example/hedge/hedge/Direction" "MIN" "Lcom/example/hedge/hedge/Direction;" (.ref t0)) (hd9 : (cmpValue (FP.dcmp d0 d1) .g) = (1 : Int32)) :
    MetFree l (⟨"com/example/hedge/hedge/Direction", "improves", "(DD)Z"⟩ : MethodName) (head1 (Jvm.Cond.code (⟨"com/example/hedge/hedge/Direction", "improves", "(DD)Z"⟩ : MethodName) prog_7_method_4_code 5 (some .boolean) :: ws) ({ frames := 0, cells := 0, slots := 0, locals := 0 } : Room)) (fun a U => a = #[(.ref t0), (.double d0), (.double d1)] ∧ Z.Warmed39 U.vm ∧ U.heap = h0) (fun _ _ _ _ _ => True) (fun _ U o U' => ∃ v L, o = .returned v ∧ Q_rm1m2 Z t0 d0 d1 h0 n0 v U'.heap L ∧ FrameEnd U o U' L ({ frames := 0, cells := 0, slots := 0, locals := 0 } : Room).cells ({ frames := 0, cells := 0, slots := 0, locals := 0 } : Room).slots) := by
  refine MetFree.of_bodySF (plainFor_of_name pn_com_example_hedge_hedge_Direction) hisR ?_
  intro p e s m args below meth c s₁ Bd hml0 hP hK
  obtain ⟨rfl, hZ, hh⟩ := hP
  have hx := Bd.exec
  have hby := Bd.bytes
  have hml : c.maxLocals = 5 := hml0
  have hown : s.vm.findClass "com/example/hedge/hedge/Direction" = some m.cls := findClass_of_methodNamed Bd.named
  have hnm := (name_of_methodNamed Bd.named Bd.method).1
  have X0 : Stand p l e ({ frames := 0, cells := 0, slots := 0, locals := 0 } : Room) s m #[(.ref t0), (.double d0), (.double d1)] below meth c s₁ [] 0 0 := Stand.of_body Bd
  have e0 : s₁.heap = h0 := by rw [← hh, Bd.state]; rfl
  have N0 := Fr.nil n0
  have pre0 : ∀ t, Steps p.tables e below (s₁.setTop (mkF m 0 #[.val (.ref t0), .val (.double d0), .second, .val (.double d1), .second] [])) t → Steps p.tables e below (s₁.setTop (entryFrame m #[(.ref t0), (.double d0), (.double d1)] 5)) t := fun t k => castTop (ef_1_RDD m t0 d0 d1) k
  obtain ⟨T1, X1, e1, st1⟩ := getS2 X0 hx hZ hown (host := "") (Or.inl (hw _ (List.mem_of_getElem? (i := 8) rfl))) Via.refl e0 S_MIN (g := (mkF m 1 #[.val (.ref t0), .val (.double d0), .second, .val (.double d1), .second] [(.ref t0)])) rfl (hb hby d1_1)
  obtain ⟨fs, hr, hrun, hended, hW, hsame⟩ := X1.leave (v := some (.int (0 : Int32))) (fun h => by rw [Bd.returns] at h; cases h)
  refine ⟨_, _, pre0 _ ?_, hrun, hended, _, _, rfl, ?_, ⟨_, rfl⟩, hW, hsame.mono (by decide) (by decide)⟩
  · show Steps p.tables e below (s₁.setTop (mkF m 0 #[.val (.ref t0), .val (.double d0), .second, .val (.double d1), .second] [])) _
    refine XS.aloadN X0.here hx rfl (hb hby d1_0) rfl rfl ?_
    show Steps p.tables e below (s₁.setTop (mkF m 1 #[.val (.ref t0), .val (.double d0), .second, .val (.double d1), .second] [(.ref t0)])) _
    refine st1 _ ?_
    show Steps p.tables e below (T1.setTop (mkF m 4 #[.val (.ref t0), .val (.double d0), .second, .val (.double d1), .second] [(.ref t0), (.ref t0)])) _
    refine Jvm.RoadKit.acmp (g := (mkF m 4 #[.val (.ref t0), .val (.double d0), .second, .val (.double d1), .second] [(.ref t0), (.ref t0)])) X1 hx rfl rfl rfl (pc0 := 4) (pc' := 7) (same := true) rfl (hb hby d1_4) rfl (decide_eq_true rfl) (by decide) (by decide) ?_
    show Steps p.tables e below (T1.setTop (mkF m 7 #[.val (.ref t0), .val (.double d0), .second, .val (.double d1), .second] [])) _
    refine XS.dloadN X1.here hx rfl (hb hby d1_7) rfl ?_
    show Steps p.tables e below (T1.setTop (mkF m 8 #[.val (.ref t0), .val (.double d0), .second, .val (.double d1), .second] [(.double d0)])) _
    refine XS.dloadN X1.here hx rfl (hb hby d1_8) rfl ?_
    show Steps p.tables e below (T1.setTop (mkF m 9 #[.val (.ref t0), .val (.double d0), .second, .val (.double d1), .second] [(.double d1), (.double d0)])) _
    refine XS.dcmpS X1.here hx rfl (hb hby d1_9) rfl (v := (1 : Int32)) hd9 ?_
    show Steps p.tables e below (T1.setTop (mkF m 10 #[.val (.ref t0), .val (.double d0), .second, .val (.double d1), .second] [(.int (1 : Int32))])) _
    refine XS.ifYes X1.here hx rfl (pc0 := 10) (pc' := 17) rfl (hb hby d1_10) rfl ((if0 _ _).trans (flt (by decide : ¬ ((1 : Int32) < (0 : Int32)))).2.1) (by decide) (by decide) ?_
    show Steps p.tables e below (T1.setTop (mkF m 17 #[.val (.ref t0), .val (.double d0), .second, .val (.double d1), .second] [])) _
    refine XS.iconst X1.here hx rfl (hb hby d1_17) ?_
    show Steps p.tables e below (T1.setTop (mkF m 18 #[.val (.ref t0), .val (.double d0), .second, .val (.double d1), .second] [(.int (0 : Int32))])) _
    refine XS.goto X1.here hx rfl (pc0 := 18) (pc' := 32) rfl (hb hby d1_18) (by decide) (by decide) ?_
    show Steps p.tables e below (T1.setTop (mkF m 32 #[.val (.ref t0), .val (.double d0), .second, .val (.double d1), .second] [(.int (0 : Int32))])) _
    exact retN X1 hx (t := .boolean) Bd.returns (by simp) (hb hby d1_32) hr
  · show Q_rm1m2 Z t0 d0 d1 h0 n0 _ T1.heap _
    rw [e1]
    exact ⟨rfl, N0, rfl⟩
theorem d1_21 : decode prog_7_method_4_code 21 = .ok (.dload_n 1, 1) := by decide +kernel
theorem d1_22 : decode prog_7_method_4_code 22 = .ok (.dload_n 3, 1) := by decide +kernel
theorem d1_23 : decode prog_7_method_4_code 23 = .ok (.dcmp .l, 1) := by decide +kernel
theorem d1_24 : decode prog_7_method_4_code 24 = .ok (.ifCond .le 7, 3) := by decide +kernel
theorem d1_31 : decode prog_7_method_4_code 31 = .ok (.iconst 0, 1) := by decide +kernel
def Q_rm1x0 (Z : State) (t0 : Addr) (d0 : UInt64) (d1 : UInt64) (mn : Addr) (h0 : Heap) (n0 : Nat) (v : Option Value) (h : Heap) (L : List Loc) : Prop := v = some (.int (0 : Int32)) ∧ Fr n0 L ∧ h = h0
set_option maxRecDepth 65536 in
set_option maxHeartbeats 40000000 in
theorem rm1x0 (l : Launch) (Z : State) (a0 : Array Value) (hw : ∀ d ∈ tables_1, d.before a0 Z = true) (ws : List Jvm.Cond) (t0 : Addr) (d0 : UInt64) (d1 : UInt64) (mn : Addr) (h0 : Heap) (n0 : Nat) (Z0 : n0 ≤ h0.size) (S_MIN : Sta Z h0 "com/example/hedge/hedge/Direction" "MIN" "Lcom/example/hedge/hedge/Direction;" (.ref mn)) (ne_t0_mn : t0 ≠ mn) (hd23 : (cmpValue (FP.dcmp d0 d1) .l) = (-1 : Int32)) :
    MetFree l (⟨"com/example/hedge/hedge/Direction", "improves", "(DD)Z"⟩ : MethodName) (head1 (Jvm.Cond.code (⟨"com/example/hedge/hedge/Direction", "improves", "(DD)Z"⟩ : MethodName) prog_7_method_4_code 5 (some .boolean) :: ws) ({ frames := 0, cells := 0, slots := 0, locals := 0 } : Room)) (fun a U => a = #[(.ref t0), (.double d0), (.double d1)] ∧ Z.Warmed39 U.vm ∧ U.heap = h0) (fun _ _ _ _ _ => True) (fun _ U o U' => ∃ v L, o = .returned v ∧ Q_rm1x0 Z t0 d0 d1 mn h0 n0 v U'.heap L ∧ FrameEnd U o U' L ({ frames := 0, cells := 0, slots := 0, locals := 0 } : Room).cells ({ frames := 0, cells := 0, slots := 0, locals := 0 } : Room).slots) := by
  refine MetFree.of_bodySF (plainFor_of_name pn_com_example_hedge_hedge_Direction) hisR ?_
  intro p e s m args below meth c s₁ Bd hml0 hP hK
  obtain ⟨rfl, hZ, hh⟩ := hP
  have hx := Bd.exec
  have hby := Bd.bytes
  have hml : c.maxLocals = 5 := hml0
  have hown : s.vm.findClass "com/example/hedge/hedge/Direction" = some m.cls := findClass_of_methodNamed Bd.named
  have hnm := (name_of_methodNamed Bd.named Bd.method).1
  have X0 : Stand p l e ({ frames := 0, cells := 0, slots := 0, locals := 0 } : Room) s m #[(.ref t0), (.double d0), (.double d1)] below meth c s₁ [] 0 0 := Stand.of_body Bd
  have e0 : s₁.heap = h0 := by rw [← hh, Bd.state]; rfl
  have N0 := Fr.nil n0
  have pre0 : ∀ t, Steps p.tables e below (s₁.setTop (mkF m 0 #[.val (.ref t0), .val (.double d0), .second, .val (.double d1), .second] [])) t → Steps p.tables e below (s₁.setTop (entryFrame m #[(.ref t0), (.double d0), (.double d1)] 5)) t := fun t k => castTop (ef_1_RDD m t0 d0 d1) k
  obtain ⟨T1, X1, e1, st1⟩ := getS2 X0 hx hZ hown (host := "") (Or.inl (hw _ (List.mem_of_getElem? (i := 8) rfl))) Via.refl e0 S_MIN (g := (mkF m 1 #[.val (.ref t0), .val (.double d0), .second, .val (.double d1), .second] [(.ref t0)])) rfl (hb hby d1_1)
  obtain ⟨fs, hr, hrun, hended, hW, hsame⟩ := X1.leave (v := some (.int (0 : Int32))) (fun h => by rw [Bd.returns] at h; cases h)
  refine ⟨_, _, pre0 _ ?_, hrun, hended, _, _, rfl, ?_, ⟨_, rfl⟩, hW, hsame.mono (by decide) (by decide)⟩
  · show Steps p.tables e below (s₁.setTop (mkF m 0 #[.val (.ref t0), .val (.double d0), .second, .val (.double d1), .second] [])) _
    refine XS.aloadN X0.here hx rfl (hb hby d1_0) rfl rfl ?_
    show Steps p.tables e below (s₁.setTop (mkF m 1 #[.val (.ref t0), .val (.double d0), .second, .val (.double d1), .second] [(.ref t0)])) _
    refine st1 _ ?_
    show Steps p.tables e below (T1.setTop (mkF m 4 #[.val (.ref t0), .val (.double d0), .second, .val (.double d1), .second] [(.ref mn), (.ref t0)])) _
    refine Jvm.RoadKit.acmp (g := (mkF m 4 #[.val (.ref t0), .val (.double d0), .second, .val (.double d1), .second] [(.ref mn), (.ref t0)])) X1 hx rfl rfl rfl (pc0 := 4) (pc' := 21) (same := false) rfl (hb hby d1_4) rfl (decide_eq_false fun q => ne_t0_mn (Value.ref.inj q)) (by decide) (by decide) ?_
    show Steps p.tables e below (T1.setTop (mkF m 21 #[.val (.ref t0), .val (.double d0), .second, .val (.double d1), .second] [])) _
    refine XS.dloadN X1.here hx rfl (hb hby d1_21) rfl ?_
    show Steps p.tables e below (T1.setTop (mkF m 22 #[.val (.ref t0), .val (.double d0), .second, .val (.double d1), .second] [(.double d0)])) _
    refine XS.dloadN X1.here hx rfl (hb hby d1_22) rfl ?_
    show Steps p.tables e below (T1.setTop (mkF m 23 #[.val (.ref t0), .val (.double d0), .second, .val (.double d1), .second] [(.double d1), (.double d0)])) _
    refine XS.dcmpS X1.here hx rfl (hb hby d1_23) rfl (v := (-1 : Int32)) hd23 ?_
    show Steps p.tables e below (T1.setTop (mkF m 24 #[.val (.ref t0), .val (.double d0), .second, .val (.double d1), .second] [(.int (-1 : Int32))])) _
    refine XS.ifYes X1.here hx rfl (pc0 := 24) (pc' := 31) rfl (hb hby d1_24) rfl ((if0 _ _).trans (flt (by decide : ¬ ((0 : Int32) < (-1 : Int32)))).2.2.2) (by decide) (by decide) ?_
    show Steps p.tables e below (T1.setTop (mkF m 31 #[.val (.ref t0), .val (.double d0), .second, .val (.double d1), .second] [])) _
    refine XS.iconst X1.here hx rfl (hb hby d1_31) ?_
    show Steps p.tables e below (T1.setTop (mkF m 32 #[.val (.ref t0), .val (.double d0), .second, .val (.double d1), .second] [(.int (0 : Int32))])) _
    exact retN X1 hx (t := .boolean) Bd.returns (by simp) (hb hby d1_32) hr
  · show Q_rm1x0 Z t0 d0 d1 mn h0 n0 _ T1.heap _
    rw [e1]
    exact ⟨rfl, N0, rfl⟩
def Q_rm1x1 (Z : State) (t0 : Addr) (d0 : UInt64) (d1 : UInt64) (mn : Addr) (h0 : Heap) (n0 : Nat) (v : Option Value) (h : Heap) (L : List Loc) : Prop := v = some (.int (0 : Int32)) ∧ Fr n0 L ∧ h = h0
set_option maxRecDepth 65536 in
set_option maxHeartbeats 40000000 in
theorem rm1x1 (l : Launch) (Z : State) (a0 : Array Value) (hw : ∀ d ∈ tables_1, d.before a0 Z = true) (ws : List Jvm.Cond) (t0 : Addr) (d0 : UInt64) (d1 : UInt64) (mn : Addr) (h0 : Heap) (n0 : Nat) (Z0 : n0 ≤ h0.size) (S_MIN : Sta Z h0 "com/example/hedge/hedge/Direction" "MIN" "Lcom/example/hedge/hedge/Direction;" (.ref mn)) (ne_t0_mn : t0 ≠ mn) (hd23 : (cmpValue (FP.dcmp d0 d1) .l) = (0 : Int32)) :
    MetFree l (⟨"com/example/hedge/hedge/Direction", "improves", "(DD)Z"⟩ : MethodName) (head1 (Jvm.Cond.code (⟨"com/example/hedge/hedge/Direction", "improves", "(DD)Z"⟩ : MethodName) prog_7_method_4_code 5 (some .boolean) :: ws) ({ frames := 0, cells := 0, slots := 0, locals := 0 } : Room)) (fun a U => a = #[(.ref t0), (.double d0), (.double d1)] ∧ Z.Warmed39 U.vm ∧ U.heap = h0) (fun _ _ _ _ _ => True) (fun _ U o U' => ∃ v L, o = .returned v ∧ Q_rm1x1 Z t0 d0 d1 mn h0 n0 v U'.heap L ∧ FrameEnd U o U' L ({ frames := 0, cells := 0, slots := 0, locals := 0 } : Room).cells ({ frames := 0, cells := 0, slots := 0, locals := 0 } : Room).slots) := by
  refine MetFree.of_bodySF (plainFor_of_name pn_com_example_hedge_hedge_Direction) hisR ?_
  intro p e s m args below meth c s₁ Bd hml0 hP hK
  obtain ⟨rfl, hZ, hh⟩ := hP
  have hx := Bd.exec
  have hby := Bd.bytes
  have hml : c.maxLocals = 5 := hml0
  have hown : s.vm.findClass "com/example/hedge/hedge/Direction" = some m.cls := findClass_of_methodNamed Bd.named
  have hnm := (name_of_methodNamed Bd.named Bd.method).1
  have X0 : Stand p l e ({ frames := 0, cells := 0, slots := 0, locals := 0 } : Room) s m #[(.ref t0), (.double d0), (.double d1)] below meth c s₁ [] 0 0 := Stand.of_body Bd
  have e0 : s₁.heap = h0 := by rw [← hh, Bd.state]; rfl
  have N0 := Fr.nil n0
  have pre0 : ∀ t, Steps p.tables e below (s₁.setTop (mkF m 0 #[.val (.ref t0), .val (.double d0), .second, .val (.double d1), .second] [])) t → Steps p.tables e below (s₁.setTop (entryFrame m #[(.ref t0), (.double d0), (.double d1)] 5)) t := fun t k => castTop (ef_1_RDD m t0 d0 d1) k
  obtain ⟨T1, X1, e1, st1⟩ := getS2 X0 hx hZ hown (host := "") (Or.inl (hw _ (List.mem_of_getElem? (i := 8) rfl))) Via.refl e0 S_MIN (g := (mkF m 1 #[.val (.ref t0), .val (.double d0), .second, .val (.double d1), .second] [(.ref t0)])) rfl (hb hby d1_1)
  obtain ⟨fs, hr, hrun, hended, hW, hsame⟩ := X1.leave (v := some (.int (0 : Int32))) (fun h => by rw [Bd.returns] at h; cases h)
  refine ⟨_, _, pre0 _ ?_, hrun, hended, _, _, rfl, ?_, ⟨_, rfl⟩, hW, hsame.mono (by decide) (by decide)⟩
  · show Steps p.tables e below (s₁.setTop (mkF m 0 #[.val (.ref t0), .val (.double d0), .second, .val (.double d1), .second] [])) _
    refine XS.aloadN X0.here hx rfl (hb hby d1_0) rfl rfl ?_
    show Steps p.tables e below (s₁.setTop (mkF m 1 #[.val (.ref t0), .val (.double d0), .second, .val (.double d1), .second] [(.ref t0)])) _
    refine st1 _ ?_
    show Steps p.tables e below (T1.setTop (mkF m 4 #[.val (.ref t0), .val (.double d0), .second, .val (.double d1), .second] [(.ref mn), (.ref t0)])) _
    refine Jvm.RoadKit.acmp (g := (mkF m 4 #[.val (.ref t0), .val (.double d0), .second, .val (.double d1), .second] [(.ref mn), (.ref t0)])) X1 hx rfl rfl rfl (pc0 := 4) (pc' := 21) (same := false) rfl (hb hby d1_4) rfl (decide_eq_false fun q => ne_t0_mn (Value.ref.inj q)) (by decide) (by decide) ?_
    show Steps p.tables e below (T1.setTop (mkF m 21 #[.val (.ref t0), .val (.double d0), .second, .val (.double d1), .second] [])) _
    refine XS.dloadN X1.here hx rfl (hb hby d1_21) rfl ?_
    show Steps p.tables e below (T1.setTop (mkF m 22 #[.val (.ref t0), .val (.double d0), .second, .val (.double d1), .second] [(.double d0)])) _
    refine XS.dloadN X1.here hx rfl (hb hby d1_22) rfl ?_
    show Steps p.tables e below (T1.setTop (mkF m 23 #[.val (.ref t0), .val (.double d0), .second, .val (.double d1), .second] [(.double d1), (.double d0)])) _
    refine XS.dcmpS X1.here hx rfl (hb hby d1_23) rfl (v := (0 : Int32)) hd23 ?_
    show Steps p.tables e below (T1.setTop (mkF m 24 #[.val (.ref t0), .val (.double d0), .second, .val (.double d1), .second] [(.int (0 : Int32))])) _
    refine XS.ifYes X1.here hx rfl (pc0 := 24) (pc' := 31) rfl (hb hby d1_24) rfl ((if0 _ _).trans (flt (by decide : ¬ ((0 : Int32) < (0 : Int32)))).2.2.2) (by decide) (by decide) ?_
    show Steps p.tables e below (T1.setTop (mkF m 31 #[.val (.ref t0), .val (.double d0), .second, .val (.double d1), .second] [])) _
    refine XS.iconst X1.here hx rfl (hb hby d1_31) ?_
    show Steps p.tables e below (T1.setTop (mkF m 32 #[.val (.ref t0), .val (.double d0), .second, .val (.double d1), .second] [(.int (0 : Int32))])) _
    exact retN X1 hx (t := .boolean) Bd.returns (by simp) (hb hby d1_32) hr
  · show Q_rm1x1 Z t0 d0 d1 mn h0 n0 _ T1.heap _
    rw [e1]
    exact ⟨rfl, N0, rfl⟩
theorem d1_27 : decode prog_7_method_4_code 27 = .ok (.iconst 1, 1) := by decide +kernel
theorem d1_28 : decode prog_7_method_4_code 28 = .ok (.goto 4, 3) := by decide +kernel
def Q_rm1x2 (Z : State) (t0 : Addr) (d0 : UInt64) (d1 : UInt64) (mn : Addr) (h0 : Heap) (n0 : Nat) (v : Option Value) (h : Heap) (L : List Loc) : Prop := v = some (.int (1 : Int32)) ∧ Fr n0 L ∧ h = h0
set_option maxRecDepth 65536 in
set_option maxHeartbeats 40000000 in
theorem rm1x2 (l : Launch) (Z : State) (a0 : Array Value) (hw : ∀ d ∈ tables_1, d.before a0 Z = true) (ws : List Jvm.Cond) (t0 : Addr) (d0 : UInt64) (d1 : UInt64) (mn : Addr) (h0 : Heap) (n0 : Nat) (Z0 : n0 ≤ h0.size) (S_MIN : Sta Z h0 "com/example/hedge/hedge/Direction" "MIN" "Lcom/example/hedge/hedge/Direction;" (.ref mn)) (ne_t0_mn : t0 ≠ mn) (hd23 : (cmpValue (FP.dcmp d0 d1) .l) = (1 : Int32)) :
    MetFree l (⟨"com/example/hedge/hedge/Direction", "improves", "(DD)Z"⟩ : MethodName) (head1 (Jvm.Cond.code (⟨"com/example/hedge/hedge/Direction", "improves", "(DD)Z"⟩ : MethodName) prog_7_method_4_code 5 (some .boolean) :: ws) ({ frames := 0, cells := 0, slots := 0, locals := 0 } : Room)) (fun a U => a = #[(.ref t0), (.double d0), (.double d1)] ∧ Z.Warmed39 U.vm ∧ U.heap = h0) (fun _ _ _ _ _ => True) (fun _ U o U' => ∃ v L, o = .returned v ∧ Q_rm1x2 Z t0 d0 d1 mn h0 n0 v U'.heap L ∧ FrameEnd U o U' L ({ frames := 0, cells := 0, slots := 0, locals := 0 } : Room).cells ({ frames := 0, cells := 0, slots := 0, locals := 0 } : Room).slots) := by
  refine MetFree.of_bodySF (plainFor_of_name pn_com_example_hedge_hedge_Direction) hisR ?_
  intro p e s m args below meth c s₁ Bd hml0 hP hK
  obtain ⟨rfl, hZ, hh⟩ := hP
  have hx := Bd.exec
  have hby := Bd.bytes
  have hml : c.maxLocals = 5 := hml0
  have hown : s.vm.findClass "com/example/hedge/hedge/Direction" = some m.cls := findClass_of_methodNamed Bd.named
  have hnm := (name_of_methodNamed Bd.named Bd.method).1
  have X0 : Stand p l e ({ frames := 0, cells := 0, slots := 0, locals := 0 } : Room) s m #[(.ref t0), (.double d0), (.double d1)] below meth c s₁ [] 0 0 := Stand.of_body Bd
  have e0 : s₁.heap = h0 := by rw [← hh, Bd.state]; rfl
  have N0 := Fr.nil n0
  have pre0 : ∀ t, Steps p.tables e below (s₁.setTop (mkF m 0 #[.val (.ref t0), .val (.double d0), .second, .val (.double d1), .second] [])) t → Steps p.tables e below (s₁.setTop (entryFrame m #[(.ref t0), (.double d0), (.double d1)] 5)) t := fun t k => castTop (ef_1_RDD m t0 d0 d1) k
  obtain ⟨T1, X1, e1, st1⟩ := getS2 X0 hx hZ hown (host := "") (Or.inl (hw _ (List.mem_of_getElem? (i := 8) rfl))) Via.refl e0 S_MIN (g := (mkF m 1 #[.val (.ref t0), .val (.double d0), .second, .val (.double d1), .second] [(.ref t0)])) rfl (hb hby d1_1)
  obtain ⟨fs, hr, hrun, hended, hW, hsame⟩ := X1.leave (v := some (.int (1 : Int32))) (fun h => by rw [Bd.returns] at h; cases h)
  refine ⟨_, _, pre0 _ ?_, hrun, hended, _, _, rfl, ?_, ⟨_, rfl⟩, hW, hsame.mono (by decide) (by decide)⟩
  · show Steps p.tables e below (s₁.setTop (mkF m 0 #[.val (.ref t0), .val (.double d0), .second, .val (.double d1), .second] [])) _
    refine XS.aloadN X0.here hx rfl (hb hby d1_0) rfl rfl ?_
    show Steps p.tables e below (s₁.setTop (mkF m 1 #[.val (.ref t0), .val (.double d0), .second, .val (.double d1), .second] [(.ref t0)])) _
    refine st1 _ ?_
    show Steps p.tables e below (T1.setTop (mkF m 4 #[.val (.ref t0), .val (.double d0), .second, .val (.double d1), .second] [(.ref mn), (.ref t0)])) _
    refine Jvm.RoadKit.acmp (g := (mkF m 4 #[.val (.ref t0), .val (.double d0), .second, .val (.double d1), .second] [(.ref mn), (.ref t0)])) X1 hx rfl rfl rfl (pc0 := 4) (pc' := 21) (same := false) rfl (hb hby d1_4) rfl (decide_eq_false fun q => ne_t0_mn (Value.ref.inj q)) (by decide) (by decide) ?_
    show Steps p.tables e below (T1.setTop (mkF m 21 #[.val (.ref t0), .val (.double d0), .second, .val (.double d1), .second] [])) _
    refine XS.dloadN X1.here hx rfl (hb hby d1_21) rfl ?_
    show Steps p.tables e below (T1.setTop (mkF m 22 #[.val (.ref t0), .val (.double d0), .second, .val (.double d1), .second] [(.double d0)])) _
    refine XS.dloadN X1.here hx rfl (hb hby d1_22) rfl ?_
    show Steps p.tables e below (T1.setTop (mkF m 23 #[.val (.ref t0), .val (.double d0), .second, .val (.double d1), .second] [(.double d1), (.double d0)])) _
    refine XS.dcmpS X1.here hx rfl (hb hby d1_23) rfl (v := (1 : Int32)) hd23 ?_
    show Steps p.tables e below (T1.setTop (mkF m 24 #[.val (.ref t0), .val (.double d0), .second, .val (.double d1), .second] [(.int (1 : Int32))])) _
    refine XS.ifNo X1.here hx rfl (hb hby d1_24) rfl ((if0 _ _).trans (tlt (by decide : (0 : Int32) < (1 : Int32))).2.2.2) ?_
    show Steps p.tables e below (T1.setTop (mkF m 27 #[.val (.ref t0), .val (.double d0), .second, .val (.double d1), .second] [])) _
    refine XS.iconst X1.here hx rfl (hb hby d1_27) ?_
    show Steps p.tables e below (T1.setTop (mkF m 28 #[.val (.ref t0), .val (.double d0), .second, .val (.double d1), .second] [(.int (1 : Int32))])) _
    refine XS.goto X1.here hx rfl (pc0 := 28) (pc' := 32) rfl (hb hby d1_28) (by decide) (by decide) ?_
    show Steps p.tables e below (T1.setTop (mkF m 32 #[.val (.ref t0), .val (.double d0), .second, .val (.double d1), .second] [(.int (1 : Int32))])) _
    exact retN X1 hx (t := .boolean) Bd.returns (by simp) (hb hby d1_32) hr
  · show Q_rm1x2 Z t0 d0 d1 mn h0 n0 _ T1.heap _
    rw [e1]
    exact ⟨rfl, N0, rfl⟩
theorem d2_0 : decode prog_7_method_5_code 0 = .ok (.aload_n 0, 1) := by decide +kernel
theorem d2_1 : decode prog_7_method_5_code 1 = .ok (.getstatic 3, 3) := by decide +kernel
theorem d2_4 : decode prog_7_method_5_code 4 = .ok (.if_acmp .ne 9, 3) := by decide +kernel
theorem d2_7 : decode prog_7_method_5_code 7 = .ok (.ldc2_w 31, 3) := by decide +kernel
theorem d2_10 : decode prog_7_method_5_code 10 = .ok (.goto 6, 3) := by decide +kernel
theorem d2_16 : decode prog_7_method_5_code 16 = .ok (.dreturn, 1) := by decide +kernel
theorem ef_2_R (m : MethodId) (x0 : Addr) : entryFrame m #[(.ref x0)] 1 = mkF m 0 #[.val (.ref x0)] [] := by first | (simp [entryFrame, mkF, argsToLocals, Value.category]; done) | rfl
def Q_rm2m (Z : State) (t0 : Addr) (h0 : Heap) (n0 : Nat) (v : Option Value) (h : Heap) (L : List Loc) : Prop := v = some (.double (9218868437227405312 : UInt64)) ∧ Fr n0 L ∧ h = h0
set_option maxRecDepth 65536 in
set_option maxHeartbeats 40000000 in
theorem rm2m (l : Launch) (Z : State) (a0 : Array Value) (hw : ∀ d ∈ tables_1, d.before a0 Z = true) (ws : List Jvm.Cond) (t0 : Addr) (h0 : Heap) (n0 : Nat) (Z0 : n0 ≤ h0.size) (S_MIN : Sta Z h0 "com/example/hedge/hedge/Direction" "MIN" "Lcom/example/hedge/hedge/Direction;" (.ref t0)) :
    MetFree l (⟨"com/example/hedge/hedge/Direction", "worst", "()D"⟩ : MethodName) (head1 (Jvm.Cond.code (⟨"com/example/hedge/hedge/Direction", "worst", "()D"⟩ : MethodName) prog_7_method_5_code 1 (some .double) :: ws) ({ frames := 0, cells := 0, slots := 0, locals := 0 } : Room)) (fun a U => a = #[(.ref t0)] ∧ Z.Warmed39 U.vm ∧ U.heap = h0) (fun _ _ _ _ _ => True) (fun _ U o U' => ∃ v L, o = .returned v ∧ Q_rm2m Z t0 h0 n0 v U'.heap L ∧ FrameEnd U o U' L ({ frames := 0, cells := 0, slots := 0, locals := 0 } : Room).cells ({ frames := 0, cells := 0, slots := 0, locals := 0 } : Room).slots) := by
  refine MetFree.of_bodySF (plainFor_of_name pn_com_example_hedge_hedge_Direction) hisR ?_
  intro p e s m args below meth c s₁ Bd hml0 hP hK
  obtain ⟨rfl, hZ, hh⟩ := hP
  have hx := Bd.exec
  have hby := Bd.bytes
  have hml : c.maxLocals = 1 := hml0
  have hown : s.vm.findClass "com/example/hedge/hedge/Direction" = some m.cls := findClass_of_methodNamed Bd.named
  have hnm := (name_of_methodNamed Bd.named Bd.method).1
  have X0 : Stand p l e ({ frames := 0, cells := 0, slots := 0, locals := 0 } : Room) s m #[(.ref t0)] below meth c s₁ [] 0 0 := Stand.of_body Bd
  have e0 : s₁.heap = h0 := by rw [← hh, Bd.state]; rfl
  have N0 := Fr.nil n0
  have pre0 : ∀ t, Steps p.tables e below (s₁.setTop (mkF m 0 #[.val (.ref t0)] [])) t → Steps p.tables e below (s₁.setTop (entryFrame m #[(.ref t0)] 1)) t := fun t k => castTop (ef_2_R m t0) k
  obtain ⟨T1, X1, e1, st1⟩ := getS2 X0 hx hZ hown (host := "") (Or.inl (hw _ (List.mem_of_getElem? (i := 8) rfl))) Via.refl e0 S_MIN (g := (mkF m 1 #[.val (.ref t0)] [(.ref t0)])) rfl (hb hby d2_1)
  obtain ⟨fs, hr, hrun, hended, hW, hsame⟩ := X1.leave (v := some (.double (9218868437227405312 : UInt64))) (fun h => by rw [Bd.returns] at h; cases h)
  refine ⟨_, _, pre0 _ ?_, hrun, hended, _, _, rfl, ?_, ⟨_, rfl⟩, hW, hsame.mono (by decide) (by decide)⟩
  · show Steps p.tables e below (s₁.setTop (mkF m 0 #[.val (.ref t0)] [])) _
    refine XS.aloadN X0.here hx rfl (hb hby d2_0) rfl rfl ?_
    show Steps p.tables e below (s₁.setTop (mkF m 1 #[.val (.ref t0)] [(.ref t0)])) _
    refine st1 _ ?_
    show Steps p.tables e below (T1.setTop (mkF m 4 #[.val (.ref t0)] [(.ref t0), (.ref t0)])) _
    refine Jvm.RoadKit.acmp (g := (mkF m 4 #[.val (.ref t0)] [(.ref t0), (.ref t0)])) X1 hx rfl rfl rfl (pc0 := 4) (pc' := 7) (same := true) rfl (hb hby d2_4) rfl (decide_eq_true rfl) (by decide) (by decide) ?_
    show Steps p.tables e below (T1.setTop (mkF m 7 #[.val (.ref t0)] [])) _
    refine X1.ldc2DoubleC hx hown (mvT hZ (hw _ (List.mem_of_getElem? (i := 16) rfl))) (g := (mkF m 7 #[.val (.ref t0)] [])) rfl (hb hby d2_7) _ ?_
    show Steps p.tables e below (T1.setTop (mkF m 10 #[.val (.ref t0)] [(.double (9218868437227405312 : UInt64))])) _
    refine XS.goto X1.here hx rfl (pc0 := 10) (pc' := 16) rfl (hb hby d2_10) (by decide) (by decide) ?_
    show Steps p.tables e below (T1.setTop (mkF m 16 #[.val (.ref t0)] [(.double (9218868437227405312 : UInt64))])) _
    exact retOut X1 hx Bd.returns rfl (Or.inr (Or.inr (Or.inl ⟨rfl, rfl, _, rfl⟩))) (hb hby d2_16) hr
  · show Q_rm2m Z t0 h0 n0 _ T1.heap _
    rw [e1]
    exact ⟨rfl, N0, rfl⟩
theorem d2_13 : decode prog_7_method_5_code 13 = .ok (.ldc2_w 33, 3) := by decide +kernel
def Q_rm2x (Z : State) (t0 : Addr) (mn : Addr) (h0 : Heap) (n0 : Nat) (v : Option Value) (h : Heap) (L : List Loc) : Prop := v = some (.double (18442240474082181120 : UInt64)) ∧ Fr n0 L ∧ h = h0
set_option maxRecDepth 65536 in
set_option maxHeartbeats 40000000 in
theorem rm2x (l : Launch) (Z : State) (a0 : Array Value) (hw : ∀ d ∈ tables_1, d.before a0 Z = true) (ws : List Jvm.Cond) (t0 : Addr) (mn : Addr) (h0 : Heap) (n0 : Nat) (Z0 : n0 ≤ h0.size) (S_MIN : Sta Z h0 "com/example/hedge/hedge/Direction" "MIN" "Lcom/example/hedge/hedge/Direction;" (.ref mn)) (ne_t0_mn : t0 ≠ mn) :
    MetFree l (⟨"com/example/hedge/hedge/Direction", "worst", "()D"⟩ : MethodName) (head1 (Jvm.Cond.code (⟨"com/example/hedge/hedge/Direction", "worst", "()D"⟩ : MethodName) prog_7_method_5_code 1 (some .double) :: ws) ({ frames := 0, cells := 0, slots := 0, locals := 0 } : Room)) (fun a U => a = #[(.ref t0)] ∧ Z.Warmed39 U.vm ∧ U.heap = h0) (fun _ _ _ _ _ => True) (fun _ U o U' => ∃ v L, o = .returned v ∧ Q_rm2x Z t0 mn h0 n0 v U'.heap L ∧ FrameEnd U o U' L ({ frames := 0, cells := 0, slots := 0, locals := 0 } : Room).cells ({ frames := 0, cells := 0, slots := 0, locals := 0 } : Room).slots) := by
  refine MetFree.of_bodySF (plainFor_of_name pn_com_example_hedge_hedge_Direction) hisR ?_
  intro p e s m args below meth c s₁ Bd hml0 hP hK
  obtain ⟨rfl, hZ, hh⟩ := hP
  have hx := Bd.exec
  have hby := Bd.bytes
  have hml : c.maxLocals = 1 := hml0
  have hown : s.vm.findClass "com/example/hedge/hedge/Direction" = some m.cls := findClass_of_methodNamed Bd.named
  have hnm := (name_of_methodNamed Bd.named Bd.method).1
  have X0 : Stand p l e ({ frames := 0, cells := 0, slots := 0, locals := 0 } : Room) s m #[(.ref t0)] below meth c s₁ [] 0 0 := Stand.of_body Bd
  have e0 : s₁.heap = h0 := by rw [← hh, Bd.state]; rfl
  have N0 := Fr.nil n0
  have pre0 : ∀ t, Steps p.tables e below (s₁.setTop (mkF m 0 #[.val (.ref t0)] [])) t → Steps p.tables e below (s₁.setTop (entryFrame m #[(.ref t0)] 1)) t := fun t k => castTop (ef_2_R m t0) k
  obtain ⟨T1, X1, e1, st1⟩ := getS2 X0 hx hZ hown (host := "") (Or.inl (hw _ (List.mem_of_getElem? (i := 8) rfl))) Via.refl e0 S_MIN (g := (mkF m 1 #[.val (.ref t0)] [(.ref t0)])) rfl (hb hby d2_1)
  obtain ⟨fs, hr, hrun, hended, hW, hsame⟩ := X1.leave (v := some (.double (18442240474082181120 : UInt64))) (fun h => by rw [Bd.returns] at h; cases h)
  refine ⟨_, _, pre0 _ ?_, hrun, hended, _, _, rfl, ?_, ⟨_, rfl⟩, hW, hsame.mono (by decide) (by decide)⟩
  · show Steps p.tables e below (s₁.setTop (mkF m 0 #[.val (.ref t0)] [])) _
    refine XS.aloadN X0.here hx rfl (hb hby d2_0) rfl rfl ?_
    show Steps p.tables e below (s₁.setTop (mkF m 1 #[.val (.ref t0)] [(.ref t0)])) _
    refine st1 _ ?_
    show Steps p.tables e below (T1.setTop (mkF m 4 #[.val (.ref t0)] [(.ref mn), (.ref t0)])) _
    refine Jvm.RoadKit.acmp (g := (mkF m 4 #[.val (.ref t0)] [(.ref mn), (.ref t0)])) X1 hx rfl rfl rfl (pc0 := 4) (pc' := 13) (same := false) rfl (hb hby d2_4) rfl (decide_eq_false fun q => ne_t0_mn (Value.ref.inj q)) (by decide) (by decide) ?_
    show Steps p.tables e below (T1.setTop (mkF m 13 #[.val (.ref t0)] [])) _
    refine X1.ldc2DoubleC hx hown (mvT hZ (hw _ (List.mem_of_getElem? (i := 17) rfl))) (g := (mkF m 13 #[.val (.ref t0)] [])) rfl (hb hby d2_13) _ ?_
    show Steps p.tables e below (T1.setTop (mkF m 16 #[.val (.ref t0)] [(.double (18442240474082181120 : UInt64))])) _
    exact retOut X1 hx Bd.returns rfl (Or.inr (Or.inr (Or.inl ⟨rfl, rfl, _, rfl⟩))) (hb hby d2_16) hr
  · show Q_rm2x Z t0 mn h0 n0 _ T1.heap _
    rw [e1]
    exact ⟨rfl, N0, rfl⟩
theorem pd_0 : parseMethodDescriptor "(DD)Z" = some ⟨[.double, .double], some .boolean⟩ := by decide +kernel
theorem pd_1 : parseMethodDescriptor "()D" = some ⟨[], some .double⟩ := by decide +kernel
theorem pn_com_example_hedge_hedge_DirectionImprovesPinLaw : plainName "com/example/hedge/hedge/DirectionImprovesPinLaw" = true := by first | (simp [plainName, overriddenIn]; done) | decide +kernel
theorem ef_0_III (m : MethodId) (x0 : Int32) (x1 : Int32) (x2 : Int32) : entryFrame m #[(.int x0), (.int x1), (.int x2)] maxLocals = mkF m 0 #[.val (.int x0), .val (.int x1), .val (.int x2), .unset, .unset, .unset, .unset, .unset, .unset, .unset, .unset, .unset] [] := by first | (simp [entryFrame, mkF, argsToLocals, Value.category, maxLocals]; done) | rfl
def Q0 (n0 : Nat) (v : Option Value) (h : Heap) (L : List Loc) : Prop := v = some (.int (1 : Int32)) ∧ Fr n0 L
set_option maxRecDepth 65536 in
set_option maxHeartbeats 40000000 in
theorem rm0_0_0 (l : Launch) (Z : State) (a0 : Array Value) (hw : ∀ d ∈ tables_1, d.before a0 Z = true) (ws : List Jvm.Cond) (p0 : Int32) (p1 : Int32) (p2 : Int32) (m0 : Addr) (m1 : Addr) (h0 : Heap) (n0 : Nat) (Z0 : n0 ≤ h0.size) (S_MIN : Sta Z h0 "com/example/hedge/hedge/Direction" "MIN" "Lcom/example/hedge/hedge/Direction;" (.ref m0)) (S_MAX : Sta Z h0 "com/example/hedge/hedge/Direction" "MAX" "Lcom/example/hedge/hedge/Direction;" (.ref m1)) (E_m0 : Exa Z h0 m0 "com/example/hedge/hedge/Direction") (E_m1 : Exa Z h0 m1 "com/example/hedge/hedge/Direction") (ne_m1_m0 : m1 ≠ m0) (hc3 : (p2 &&& (1 : Int32)) = (0 : Int32)) (hd9_31 : (cmpValue (FP.dcmp (FP.i2d p0) (FP.i2d p1)) .g) = (-1 : Int32)) (hd23_43 : (cmpValue (FP.dcmp (FP.i2d p0) (FP.i2d p1)) .l) = (-1 : Int32)) (hd9_55 : (cmpValue (FP.dcmp (FP.i2d p1) (FP.i2d p0)) .g) = (1 : Int32)) (hd9_67 : (cmpValue (FP.dcmp (FP.i2d p0) (9218868437227405312 : UInt64)) .g) = (-1 : Int32)) (hc76 : p0 < p1) (hc91 : ¬ (p1 < p0)) :
    MetFree l x (head1 (Jvm.Cond.code x code maxLocals ret :: ws) room_1) (fun a U => a = #[(.int p0), (.int p1), (.int p2)] ∧ Z.Warmed39 U.vm ∧ U.heap = h0) (fun _ _ _ _ _ => True) (fun _ U o U' => ∃ v L, o = .returned v ∧ Q0 n0 v U'.heap L ∧ FrameEnd U o U' L room_1.cells room_1.slots) := by
  refine MetFree.of_bodySF (plainFor_of_name pn_com_example_hedge_hedge_DirectionImprovesPinLaw) hisR ?_
  intro p e s m args below meth c s₁ Bd hml0 hP hK
  obtain ⟨rfl, hZ, hh⟩ := hP
  have hx := Bd.exec
  have hby := Bd.bytes
  have hml : c.maxLocals = 12 := hml0
  have hown : s.vm.findClass "com/example/hedge/hedge/DirectionImprovesPinLaw" = some m.cls := findClass_of_methodNamed Bd.named
  have hnm := (name_of_methodNamed Bd.named Bd.method).1
  have X0 : Stand p l e room_1 s m #[(.int p0), (.int p1), (.int p2)] below meth c s₁ [] 0 0 := Stand.of_body Bd
  have e0 : s₁.heap = h0 := by rw [← hh, Bd.state]; rfl
  have N0 := Fr.nil n0
  have pre0 : ∀ t, Steps p.tables e below (s₁.setTop (mkF m 0 #[.val (.int p0), .val (.int p1), .val (.int p2), .unset, .unset, .unset, .unset, .unset, .unset, .unset, .unset, .unset] [])) t → Steps p.tables e below (s₁.setTop (entryFrame m #[(.int p0), (.int p1), (.int p2)] maxLocals)) t := fun t k => castTop (ef_0_III m p0 p1 p2) k
  obtain ⟨T1, X1, e1, st1⟩ := getS2 X0 hx hZ hown (host := "") (Or.inl (hw _ (List.mem_of_getElem? (i := 0) rfl))) Via.refl e0 S_MIN (g := (mkF m 12 #[.val (.int p0), .val (.int p1), .val (.int p2), .unset, .unset, .unset, .unset, .unset, .unset, .unset, .unset, .unset] [])) rfl (hb hby at_12)
  obtain ⟨T2, X2, e2, st2⟩ := getS2 X1 hx hZ hown (host := "") (Or.inl (hw _ (List.mem_of_getElem? (i := 0) rfl))) Via.refl e1 S_MIN (g := (mkF m 24 #[.val (.int p0), .val (.int p1), .val (.int p2), .val (.ref m0), .val (.double (FP.i2d p0)), .second, .val (.double (FP.i2d p1)), .second, .unset, .unset, .unset, .unset] [])) rfl (hb hby at_24)
  obtain ⟨cq3, kq3, q3a, q3b, q3c⟩ := isOf hZ e2 E_m0
  obtain ⟨_, _, ⟨T3, L3, k3, n3⟩, -, X3, ⟨Lc3, hQ3, l3, y3, z3⟩, st3⟩ := X2.virtualBack hx (y := (⟨"com/example/hedge/hedge/Direction", "improves", "(DD)Z"⟩ : MethodName)) (z := (⟨"com/example/hedge/hedge/Direction", "improves", "(DD)Z"⟩ : MethodName)) hown (mvT hZ (hw _ (List.mem_of_getElem? (i := 3) rfl))) (mvT hZ (hw _ (List.mem_of_getElem? (i := 4) rfl))) (notFace_of_selects (args := #[]) (mvT hZ (hw _ (List.mem_of_getElem? (i := 6) rfl)))) (mvT hZ (hw _ (List.mem_of_getElem? (i := 6) rfl))) (mvT hZ (hw _ (List.mem_of_getElem? (i := 5) rfl))) (by decide) (backOf (W := 0) (rm1m0 l Z a0 hw [] m0 (FP.i2d p0) (FP.i2d p1) h0 n0 Z0 S_MIN hd9_31) hZ (hw _ (List.mem_of_getElem? (i := 7) rfl)) (hw _ (List.mem_of_getElem? (i := 1) rfl)) (by decide) (by decide)) q3a q3c (g := (mkF m 31 #[.val (.int p0), .val (.int p1), .val (.int p2), .val (.ref m0), .val (.double (FP.i2d p0)), .second, .val (.double (FP.i2d p1)), .second, .unset, .unset, .unset, .unset] [(.double (FP.i2d p1)), (.double (FP.i2d p0)), (.ref m0)])) rfl (by rw [hml]; rfl) (Steps.refl _) (argsL := [(.double (FP.i2d p0)), (.double (FP.i2d p1))]) (rest := []) (lenOf pd_0 rfl) rfl (by show 2 * 0 + _ ≤ _; exact Nat.le_of_eq rfl) (hb hby at_31) (fun _ _ => ⟨rfl, e2, (by decide : 0 + 0 ≤ _), (by decide : 0 + 0 ≤ _)⟩)
  dsimp only [Pt.U, Pt.locs, Pt.cells, Pt.slots] at X3 l3 y3 z3 st3 hQ3
  subst l3 y3 z3
  obtain ⟨rfl, N3q, eh3⟩ := hQ3
  have N3 := Fr.app N0 N3q
  have e3 : T3.heap = h0 := eh3
  obtain ⟨T4, X4, e4, st4⟩ := getS2 X3 hx hZ hown (host := "") (Or.inl (hw _ (List.mem_of_getElem? (i := 9) rfl))) Via.refl e3 S_MAX (g := (mkF m 36 #[.val (.int p0), .val (.int p1), .val (.int p2), .val (.ref m0), .val (.double (FP.i2d p0)), .second, .val (.double (FP.i2d p1)), .second, .val (.int (1 : Int32)), .unset, .unset, .unset] [])) rfl (hb hby at_36)
  obtain ⟨cq5, kq5, q5a, q5b, q5c⟩ := isOf hZ e4 E_m1
  obtain ⟨_, _, ⟨T5, L5, k5, n5⟩, -, X5, ⟨Lc5, hQ5, l5, y5, z5⟩, st5⟩ := X4.virtualBack hx (y := (⟨"com/example/hedge/hedge/Direction", "improves", "(DD)Z"⟩ : MethodName)) (z := (⟨"com/example/hedge/hedge/Direction", "improves", "(DD)Z"⟩ : MethodName)) hown (mvT hZ (hw _ (List.mem_of_getElem? (i := 3) rfl))) (mvT hZ (hw _ (List.mem_of_getElem? (i := 4) rfl))) (notFace_of_selects (args := #[]) (mvT hZ (hw _ (List.mem_of_getElem? (i := 6) rfl)))) (mvT hZ (hw _ (List.mem_of_getElem? (i := 6) rfl))) (mvT hZ (hw _ (List.mem_of_getElem? (i := 5) rfl))) (by decide) (backOf (W := 0) (rm1x0 l Z a0 hw [] m1 (FP.i2d p0) (FP.i2d p1) m0 h0 n0 Z0 S_MIN ne_m1_m0 hd23_43) hZ (hw _ (List.mem_of_getElem? (i := 7) rfl)) (hw _ (List.mem_of_getElem? (i := 1) rfl)) (by decide) (by decide)) q5a q5c (g := (mkF m 43 #[.val (.int p0), .val (.int p1), .val (.int p2), .val (.ref m0), .val (.double (FP.i2d p0)), .second, .val (.double (FP.i2d p1)), .second, .val (.int (1 : Int32)), .unset, .unset, .unset] [(.double (FP.i2d p1)), (.double (FP.i2d p0)), (.ref m1)])) rfl (by rw [hml]; rfl) (Steps.refl _) (argsL := [(.double (FP.i2d p0)), (.double (FP.i2d p1))]) (rest := []) (lenOf pd_0 rfl) rfl (by show 2 * 0 + _ ≤ _; exact Nat.le_of_eq rfl) (hb hby at_43) (fun _ _ => ⟨rfl, e4, (by decide : 0 + 0 ≤ _), (by decide : 0 + 0 ≤ _)⟩)
  dsimp only [Pt.U, Pt.locs, Pt.cells, Pt.slots] at X5 l5 y5 z5 st5 hQ5
  subst l5 y5 z5
  obtain ⟨rfl, N5q, eh5⟩ := hQ5
  have N5 := Fr.app N3 N5q
  have e5 : T5.heap = h0 := eh5
  obtain ⟨T6, X6, e6, st6⟩ := getS2 X5 hx hZ hown (host := "") (Or.inl (hw _ (List.mem_of_getElem? (i := 0) rfl))) Via.refl e5 S_MIN (g := (mkF m 48 #[.val (.int p0), .val (.int p1), .val (.int p2), .val (.ref m0), .val (.double (FP.i2d p0)), .second, .val (.double (FP.i2d p1)), .second, .val (.int (1 : Int32)), .val (.int (0 : Int32)), .unset, .unset] [])) rfl (hb hby at_48)
  obtain ⟨cq7, kq7, q7a, q7b, q7c⟩ := isOf hZ e6 E_m0
  obtain ⟨_, _, ⟨T7, L7, k7, n7⟩, -, X7, ⟨Lc7, hQ7, l7, y7, z7⟩, st7⟩ := X6.virtualBack hx (y := (⟨"com/example/hedge/hedge/Direction", "improves", "(DD)Z"⟩ : MethodName)) (z := (⟨"com/example/hedge/hedge/Direction", "improves", "(DD)Z"⟩ : MethodName)) hown (mvT hZ (hw _ (List.mem_of_getElem? (i := 3) rfl))) (mvT hZ (hw _ (List.mem_of_getElem? (i := 4) rfl))) (notFace_of_selects (args := #[]) (mvT hZ (hw _ (List.mem_of_getElem? (i := 6) rfl)))) (mvT hZ (hw _ (List.mem_of_getElem? (i := 6) rfl))) (mvT hZ (hw _ (List.mem_of_getElem? (i := 5) rfl))) (by decide) (backOf (W := 0) (rm1m2 l Z a0 hw [] m0 (FP.i2d p1) (FP.i2d p0) h0 n0 Z0 S_MIN hd9_55) hZ (hw _ (List.mem_of_getElem? (i := 7) rfl)) (hw _ (List.mem_of_getElem? (i := 1) rfl)) (by decide) (by decide)) q7a q7c (g := (mkF m 55 #[.val (.int p0), .val (.int p1), .val (.int p2), .val (.ref m0), .val (.double (FP.i2d p0)), .second, .val (.double (FP.i2d p1)), .second, .val (.int (1 : Int32)), .val (.int (0 : Int32)), .unset, .unset] [(.double (FP.i2d p0)), (.double (FP.i2d p1)), (.ref m0)])) rfl (by rw [hml]; rfl) (Steps.refl _) (argsL := [(.double (FP.i2d p1)), (.double (FP.i2d p0))]) (rest := []) (lenOf pd_0 rfl) rfl (by show 2 * 0 + _ ≤ _; exact Nat.le_of_eq rfl) (hb hby at_55) (fun _ _ => ⟨rfl, e6, (by decide : 0 + 0 ≤ _), (by decide : 0 + 0 ≤ _)⟩)
  dsimp only [Pt.U, Pt.locs, Pt.cells, Pt.slots] at X7 l7 y7 z7 st7 hQ7
  subst l7 y7 z7
  obtain ⟨rfl, N7q, eh7⟩ := hQ7
  have N7 := Fr.app N5 N7q
  have e7 : T7.heap = h0 := eh7
  obtain ⟨cq8, kq8, q8a, q8b, q8c⟩ := isOf hZ e7 E_m0
  obtain ⟨_, _, ⟨T8, L8, k8, n8⟩, -, X8, ⟨Lc8, hQ8, l8, y8, z8⟩, st8⟩ := X7.virtualBack hx (y := (⟨"com/example/hedge/hedge/Direction", "worst", "()D"⟩ : MethodName)) (z := (⟨"com/example/hedge/hedge/Direction", "worst", "()D"⟩ : MethodName)) hown (mvT hZ (hw _ (List.mem_of_getElem? (i := 11) rfl))) (mvT hZ (hw _ (List.mem_of_getElem? (i := 12) rfl))) (notFace_of_selects (args := #[]) (mvT hZ (hw _ (List.mem_of_getElem? (i := 14) rfl)))) (mvT hZ (hw _ (List.mem_of_getElem? (i := 14) rfl))) (mvT hZ (hw _ (List.mem_of_getElem? (i := 13) rfl))) (by decide) (backOf (W := 3) (rm2m l Z a0 hw [] m0 h0 n0 Z0 S_MIN) hZ (hw _ (List.mem_of_getElem? (i := 15) rfl)) (hw _ (List.mem_of_getElem? (i := 1) rfl)) (by decide) (by decide)) q8a q8c (g := (mkF m 64 #[.val (.int p0), .val (.int p1), .val (.int p2), .val (.ref m0), .val (.double (FP.i2d p0)), .second, .val (.double (FP.i2d p1)), .second, .val (.int (1 : Int32)), .val (.int (0 : Int32)), .val (.int (0 : Int32)), .unset] [(.ref m0), (.double (FP.i2d p0)), (.ref m0)])) rfl (by rw [hml]; rfl) (Steps.refl _) (argsL := []) (rest := [(.double (FP.i2d p0)), (.ref m0)]) (lenOf pd_1 rfl) rfl (by show 2 * 0 + _ ≤ _; exact Nat.le_of_eq rfl) (hb hby at_64) (fun _ _ => ⟨rfl, e7, (by decide : 0 + 0 ≤ _), (by decide : 0 + 0 ≤ _)⟩)
  dsimp only [Pt.U, Pt.locs, Pt.cells, Pt.slots] at X8 l8 y8 z8 st8 hQ8
  subst l8 y8 z8
  obtain ⟨rfl, N8q, eh8⟩ := hQ8
  have N8 := Fr.app N7 N8q
  have e8 : T8.heap = h0 := eh8
  obtain ⟨cq9, kq9, q9a, q9b, q9c⟩ := isOf hZ e8 E_m0
  obtain ⟨_, _, ⟨T9, L9, k9, n9⟩, -, X9, ⟨Lc9, hQ9, l9, y9, z9⟩, st9⟩ := X8.virtualBack hx (y := (⟨"com/example/hedge/hedge/Direction", "improves", "(DD)Z"⟩ : MethodName)) (z := (⟨"com/example/hedge/hedge/Direction", "improves", "(DD)Z"⟩ : MethodName)) hown (mvT hZ (hw _ (List.mem_of_getElem? (i := 3) rfl))) (mvT hZ (hw _ (List.mem_of_getElem? (i := 4) rfl))) (notFace_of_selects (args := #[]) (mvT hZ (hw _ (List.mem_of_getElem? (i := 6) rfl)))) (mvT hZ (hw _ (List.mem_of_getElem? (i := 6) rfl))) (mvT hZ (hw _ (List.mem_of_getElem? (i := 5) rfl))) (by decide) (backOf (W := 0) (rm1m0 l Z a0 hw [] m0 (FP.i2d p0) (9218868437227405312 : UInt64) h0 n0 Z0 S_MIN hd9_67) hZ (hw _ (List.mem_of_getElem? (i := 7) rfl)) (hw _ (List.mem_of_getElem? (i := 1) rfl)) (by decide) (by decide)) q9a q9c (g := (mkF m 67 #[.val (.int p0), .val (.int p1), .val (.int p2), .val (.ref m0), .val (.double (FP.i2d p0)), .second, .val (.double (FP.i2d p1)), .second, .val (.int (1 : Int32)), .val (.int (0 : Int32)), .val (.int (0 : Int32)), .unset] [(.double (9218868437227405312 : UInt64)), (.double (FP.i2d p0)), (.ref m0)])) rfl (by rw [hml]; rfl) (Steps.refl _) (argsL := [(.double (FP.i2d p0)), (.double (9218868437227405312 : UInt64))]) (rest := []) (lenOf pd_0 rfl) rfl (by show 2 * 0 + _ ≤ _; exact Nat.le_of_eq rfl) (hb hby at_67) (fun _ _ => ⟨rfl, e8, (by decide : 0 + 0 ≤ _), (by decide : 0 + 0 ≤ _)⟩)
  dsimp only [Pt.U, Pt.locs, Pt.cells, Pt.slots] at X9 l9 y9 z9 st9 hQ9
  subst l9 y9 z9
  obtain ⟨rfl, N9q, eh9⟩ := hQ9
  have N9 := Fr.app N8 N9q
  have e9 : T9.heap = h0 := eh9
  obtain ⟨fs, hr, hrun, hended, hW, hsame⟩ := X9.leave (v := some (.int (1 : Int32))) (fun h => by rw [Bd.returns] at h; cases h)
  refine ⟨_, _, pre0 _ ?_, hrun, hended, _, _, rfl, ?_, ⟨_, rfl⟩, hW, hsame.mono (by decide) (by decide)⟩
  · show Steps p.tables e below (s₁.setTop (mkF m 0 #[.val (.int p0), .val (.int p1), .val (.int p2), .unset, .unset, .unset, .unset, .unset, .unset, .unset, .unset, .unset] [])) _
    refine XS.iloadN X0.here hx rfl (hb hby at_0) rfl ?_
    show Steps p.tables e below (s₁.setTop (mkF m 1 #[.val (.int p0), .val (.int p1), .val (.int p2), .unset, .unset, .unset, .unset, .unset, .unset, .unset, .unset, .unset] [(.int p2)])) _
    refine XS.iconst X0.here hx rfl (hb hby at_1) ?_
    show Steps p.tables e below (s₁.setTop (mkF m 2 #[.val (.int p0), .val (.int p1), .val (.int p2), .unset, .unset, .unset, .unset, .unset, .unset, .unset, .unset, .unset] [(.int (1 : Int32)), (.int p2)])) _
    refine XS.iand X0.here hx rfl (hb hby at_2) rfl ?_
    show Steps p.tables e below (s₁.setTop (mkF m 3 #[.val (.int p0), .val (.int p1), .val (.int p2), .unset, .unset, .unset, .unset, .unset, .unset, .unset, .unset, .unset] [(.int (p2 &&& (1 : Int32)))])) _
    refine XS.ifYes X0.here hx rfl (pc0 := 3) (pc' := 12) rfl (hb hby at_3) rfl ((if0 _ _).trans (teq hc3).1) (by decide) (by decide) ?_
    show Steps p.tables e below (s₁.setTop (mkF m 12 #[.val (.int p0), .val (.int p1), .val (.int p2), .unset, .unset, .unset, .unset, .unset, .unset, .unset, .unset, .unset] [])) _
    refine st1 _ ?_
    show Steps p.tables e below (T1.setTop (mkF m 15 #[.val (.int p0), .val (.int p1), .val (.int p2), .unset, .unset, .unset, .unset, .unset, .unset, .unset, .unset, .unset] [(.ref m0)])) _
    refine XS.astoreN X1.here hx rfl (hb hby at_15) rfl rfl (l' := #[.val (.int p0), .val (.int p1), .val (.int p2), .val (.ref m0), .unset, .unset, .unset, .unset, .unset, .unset, .unset, .unset]) rfl ?_
    show Steps p.tables e below (T1.setTop (mkF m 16 #[.val (.int p0), .val (.int p1), .val (.int p2), .val (.ref m0), .unset, .unset, .unset, .unset, .unset, .unset, .unset, .unset] [])) _
    refine XS.iloadN X1.here hx rfl (hb hby at_16) rfl ?_
    show Steps p.tables e below (T1.setTop (mkF m 17 #[.val (.int p0), .val (.int p1), .val (.int p2), .val (.ref m0), .unset, .unset, .unset, .unset, .unset, .unset, .unset, .unset] [(.int p0)])) _
    refine XS.i2dS X1.here hx rfl (hb hby at_17) rfl (v := (FP.i2d p0)) rfl ?_
    show Steps p.tables e below (T1.setTop (mkF m 18 #[.val (.int p0), .val (.int p1), .val (.int p2), .val (.ref m0), .unset, .unset, .unset, .unset, .unset, .unset, .unset, .unset] [(.double (FP.i2d p0))])) _
    refine XS.dstore X1.here hx rfl (hb hby at_18) rfl (l' := #[.val (.int p0), .val (.int p1), .val (.int p2), .val (.ref m0), .val (.double (FP.i2d p0)), .second, .unset, .unset, .unset, .unset, .unset, .unset]) rfl ?_
    show Steps p.tables e below (T1.setTop (mkF m 20 #[.val (.int p0), .val (.int p1), .val (.int p2), .val (.ref m0), .val (.double (FP.i2d p0)), .second, .unset, .unset, .unset, .unset, .unset, .unset] [])) _
    refine XS.iloadN X1.here hx rfl (hb hby at_20) rfl ?_
    show Steps p.tables e below (T1.setTop (mkF m 21 #[.val (.int p0), .val (.int p1), .val (.int p2), .val (.ref m0), .val (.double (FP.i2d p0)), .second, .unset, .unset, .unset, .unset, .unset, .unset] [(.int p1)])) _
    refine XS.i2dS X1.here hx rfl (hb hby at_21) rfl (v := (FP.i2d p1)) rfl ?_
    show Steps p.tables e below (T1.setTop (mkF m 22 #[.val (.int p0), .val (.int p1), .val (.int p2), .val (.ref m0), .val (.double (FP.i2d p0)), .second, .unset, .unset, .unset, .unset, .unset, .unset] [(.double (FP.i2d p1))])) _
    refine XS.dstore X1.here hx rfl (hb hby at_22) rfl (l' := #[.val (.int p0), .val (.int p1), .val (.int p2), .val (.ref m0), .val (.double (FP.i2d p0)), .second, .val (.double (FP.i2d p1)), .second, .unset, .unset, .unset, .unset]) rfl ?_
    show Steps p.tables e below (T1.setTop (mkF m 24 #[.val (.int p0), .val (.int p1), .val (.int p2), .val (.ref m0), .val (.double (FP.i2d p0)), .second, .val (.double (FP.i2d p1)), .second, .unset, .unset, .unset, .unset] [])) _
    refine st2 _ ?_
    show Steps p.tables e below (T2.setTop (mkF m 27 #[.val (.int p0), .val (.int p1), .val (.int p2), .val (.ref m0), .val (.double (FP.i2d p0)), .second, .val (.double (FP.i2d p1)), .second, .unset, .unset, .unset, .unset] [(.ref m0)])) _
    refine XS.dload X2.here hx rfl (hb hby at_27) rfl ?_
    show Steps p.tables e below (T2.setTop (mkF m 29 #[.val (.int p0), .val (.int p1), .val (.int p2), .val (.ref m0), .val (.double (FP.i2d p0)), .second, .val (.double (FP.i2d p1)), .second, .unset, .unset, .unset, .unset] [(.double (FP.i2d p0)), (.ref m0)])) _
    refine XS.dload X2.here hx rfl (hb hby at_29) rfl ?_
    show Steps p.tables e below (T2.setTop (mkF m 31 #[.val (.int p0), .val (.int p1), .val (.int p2), .val (.ref m0), .val (.double (FP.i2d p0)), .second, .val (.double (FP.i2d p1)), .second, .unset, .unset, .unset, .unset] [(.double (FP.i2d p1)), (.double (FP.i2d p0)), (.ref m0)])) _
    refine st3.trans ?_
    show Steps p.tables e below (T3.setTop (mkF m 34 #[.val (.int p0), .val (.int p1), .val (.int p2), .val (.ref m0), .val (.double (FP.i2d p0)), .second, .val (.double (FP.i2d p1)), .second, .unset, .unset, .unset, .unset] [(.int (1 : Int32))])) _
    refine XS.istore X3.here hx rfl (hb hby at_34) rfl (l' := #[.val (.int p0), .val (.int p1), .val (.int p2), .val (.ref m0), .val (.double (FP.i2d p0)), .second, .val (.double (FP.i2d p1)), .second, .val (.int (1 : Int32)), .unset, .unset, .unset]) rfl ?_
    show Steps p.tables e below (T3.setTop (mkF m 36 #[.val (.int p0), .val (.int p1), .val (.int p2), .val (.ref m0), .val (.double (FP.i2d p0)), .second, .val (.double (FP.i2d p1)), .second, .val (.int (1 : Int32)), .unset, .unset, .unset] [])) _
    refine st4 _ ?_
    show Steps p.tables e below (T4.setTop (mkF m 39 #[.val (.int p0), .val (.int p1), .val (.int p2), .val (.ref m0), .val (.double (FP.i2d p0)), .second, .val (.double (FP.i2d p1)), .second, .val (.int (1 : Int32)), .unset, .unset, .unset] [(.ref m1)])) _
    refine XS.dload X4.here hx rfl (hb hby at_39) rfl ?_
    show Steps p.tables e below (T4.setTop (mkF m 41 #[.val (.int p0), .val (.int p1), .val (.int p2), .val (.ref m0), .val (.double (FP.i2d p0)), .second, .val (.double (FP.i2d p1)), .second, .val (.int (1 : Int32)), .unset, .unset, .unset] [(.double (FP.i2d p0)), (.ref m1)])) _
    refine XS.dload X4.here hx rfl (hb hby at_41) rfl ?_
    show Steps p.tables e below (T4.setTop (mkF m 43 #[.val (.int p0), .val (.int p1), .val (.int p2), .val (.ref m0), .val (.double (FP.i2d p0)), .second, .val (.double (FP.i2d p1)), .second, .val (.int (1 : Int32)), .unset, .unset, .unset] [(.double (FP.i2d p1)), (.double (FP.i2d p0)), (.ref m1)])) _
    refine st5.trans ?_
    show Steps p.tables e below (T5.setTop (mkF m 46 #[.val (.int p0), .val (.int p1), .val (.int p2), .val (.ref m0), .val (.double (FP.i2d p0)), .second, .val (.double (FP.i2d p1)), .second, .val (.int (1 : Int32)), .unset, .unset, .unset] [(.int (0 : Int32))])) _
    refine XS.istore X5.here hx rfl (hb hby at_46) rfl (l' := #[.val (.int p0), .val (.int p1), .val (.int p2), .val (.ref m0), .val (.double (FP.i2d p0)), .second, .val (.double (FP.i2d p1)), .second, .val (.int (1 : Int32)), .val (.int (0 : Int32)), .unset, .unset]) rfl ?_
    show Steps p.tables e below (T5.setTop (mkF m 48 #[.val (.int p0), .val (.int p1), .val (.int p2), .val (.ref m0), .val (.double (FP.i2d p0)), .second, .val (.double (FP.i2d p1)), .second, .val (.int (1 : Int32)), .val (.int (0 : Int32)), .unset, .unset] [])) _
    refine st6 _ ?_
    show Steps p.tables e below (T6.setTop (mkF m 51 #[.val (.int p0), .val (.int p1), .val (.int p2), .val (.ref m0), .val (.double (FP.i2d p0)), .second, .val (.double (FP.i2d p1)), .second, .val (.int (1 : Int32)), .val (.int (0 : Int32)), .unset, .unset] [(.ref m0)])) _
    refine XS.dload X6.here hx rfl (hb hby at_51) rfl ?_
    show Steps p.tables e below (T6.setTop (mkF m 53 #[.val (.int p0), .val (.int p1), .val (.int p2), .val (.ref m0), .val (.double (FP.i2d p0)), .second, .val (.double (FP.i2d p1)), .second, .val (.int (1 : Int32)), .val (.int (0 : Int32)), .unset, .unset] [(.double (FP.i2d p1)), (.ref m0)])) _
    refine XS.dload X6.here hx rfl (hb hby at_53) rfl ?_
    show Steps p.tables e below (T6.setTop (mkF m 55 #[.val (.int p0), .val (.int p1), .val (.int p2), .val (.ref m0), .val (.double (FP.i2d p0)), .second, .val (.double (FP.i2d p1)), .second, .val (.int (1 : Int32)), .val (.int (0 : Int32)), .unset, .unset] [(.double (FP.i2d p0)), (.double (FP.i2d p1)), (.ref m0)])) _
    refine st7.trans ?_
    show Steps p.tables e below (T7.setTop (mkF m 58 #[.val (.int p0), .val (.int p1), .val (.int p2), .val (.ref m0), .val (.double (FP.i2d p0)), .second, .val (.double (FP.i2d p1)), .second, .val (.int (1 : Int32)), .val (.int (0 : Int32)), .unset, .unset] [(.int (0 : Int32))])) _
    refine XS.istore X7.here hx rfl (hb hby at_58) rfl (l' := #[.val (.int p0), .val (.int p1), .val (.int p2), .val (.ref m0), .val (.double (FP.i2d p0)), .second, .val (.double (FP.i2d p1)), .second, .val (.int (1 : Int32)), .val (.int (0 : Int32)), .val (.int (0 : Int32)), .unset]) rfl ?_
    show Steps p.tables e below (T7.setTop (mkF m 60 #[.val (.int p0), .val (.int p1), .val (.int p2), .val (.ref m0), .val (.double (FP.i2d p0)), .second, .val (.double (FP.i2d p1)), .second, .val (.int (1 : Int32)), .val (.int (0 : Int32)), .val (.int (0 : Int32)), .unset] [])) _
    refine XS.aloadN X7.here hx rfl (hb hby at_60) rfl rfl ?_
    show Steps p.tables e below (T7.setTop (mkF m 61 #[.val (.int p0), .val (.int p1), .val (.int p2), .val (.ref m0), .val (.double (FP.i2d p0)), .second, .val (.double (FP.i2d p1)), .second, .val (.int (1 : Int32)), .val (.int (0 : Int32)), .val (.int (0 : Int32)), .unset] [(.ref m0)])) _
    refine XS.dload X7.here hx rfl (hb hby at_61) rfl ?_
    show Steps p.tables e below (T7.setTop (mkF m 63 #[.val (.int p0), .val (.int p1), .val (.int p2), .val (.ref m0), .val (.double (FP.i2d p0)), .second, .val (.double (FP.i2d p1)), .second, .val (.int (1 : Int32)), .val (.int (0 : Int32)), .val (.int (0 : Int32)), .unset] [(.double (FP.i2d p0)), (.ref m0)])) _
    refine XS.aloadN X7.here hx rfl (hb hby at_63) rfl rfl ?_
    show Steps p.tables e below (T7.setTop (mkF m 64 #[.val (.int p0), .val (.int p1), .val (.int p2), .val (.ref m0), .val (.double (FP.i2d p0)), .second, .val (.double (FP.i2d p1)), .second, .val (.int (1 : Int32)), .val (.int (0 : Int32)), .val (.int (0 : Int32)), .unset] [(.ref m0), (.double (FP.i2d p0)), (.ref m0)])) _
    refine st8.trans ?_
    show Steps p.tables e below (T8.setTop (mkF m 67 #[.val (.int p0), .val (.int p1), .val (.int p2), .val (.ref m0), .val (.double (FP.i2d p0)), .second, .val (.double (FP.i2d p1)), .second, .val (.int (1 : Int32)), .val (.int (0 : Int32)), .val (.int (0 : Int32)), .unset] [(.double (9218868437227405312 : UInt64)), (.double (FP.i2d p0)), (.ref m0)])) _
    refine st9.trans ?_
    show Steps p.tables e below (T9.setTop (mkF m 70 #[.val (.int p0), .val (.int p1), .val (.int p2), .val (.ref m0), .val (.double (FP.i2d p0)), .second, .val (.double (FP.i2d p1)), .second, .val (.int (1 : Int32)), .val (.int (0 : Int32)), .val (.int (0 : Int32)), .unset] [(.int (1 : Int32))])) _
    refine XS.istore X9.here hx rfl (hb hby at_70) rfl (l' := #[.val (.int p0), .val (.int p1), .val (.int p2), .val (.ref m0), .val (.double (FP.i2d p0)), .second, .val (.double (FP.i2d p1)), .second, .val (.int (1 : Int32)), .val (.int (0 : Int32)), .val (.int (0 : Int32)), .val (.int (1 : Int32))]) rfl ?_
    show Steps p.tables e below (T9.setTop (mkF m 72 #[.val (.int p0), .val (.int p1), .val (.int p2), .val (.ref m0), .val (.double (FP.i2d p0)), .second, .val (.double (FP.i2d p1)), .second, .val (.int (1 : Int32)), .val (.int (0 : Int32)), .val (.int (0 : Int32)), .val (.int (1 : Int32))] [])) _
    refine XS.iload X9.here hx rfl (hb hby at_72) rfl ?_
    show Steps p.tables e below (T9.setTop (mkF m 74 #[.val (.int p0), .val (.int p1), .val (.int p2), .val (.ref m0), .val (.double (FP.i2d p0)), .second, .val (.double (FP.i2d p1)), .second, .val (.int (1 : Int32)), .val (.int (0 : Int32)), .val (.int (0 : Int32)), .val (.int (1 : Int32))] [(.int (1 : Int32))])) _
    refine XS.iloadN X9.here hx rfl (hb hby at_74) rfl ?_
    show Steps p.tables e below (T9.setTop (mkF m 75 #[.val (.int p0), .val (.int p1), .val (.int p2), .val (.ref m0), .val (.double (FP.i2d p0)), .second, .val (.double (FP.i2d p1)), .second, .val (.int (1 : Int32)), .val (.int (0 : Int32)), .val (.int (0 : Int32)), .val (.int (1 : Int32))] [(.int p0), (.int (1 : Int32))])) _
    refine XS.iloadN X9.here hx rfl (hb hby at_75) rfl ?_
    show Steps p.tables e below (T9.setTop (mkF m 76 #[.val (.int p0), .val (.int p1), .val (.int p2), .val (.ref m0), .val (.double (FP.i2d p0)), .second, .val (.double (FP.i2d p1)), .second, .val (.int (1 : Int32)), .val (.int (0 : Int32)), .val (.int (0 : Int32)), .val (.int (1 : Int32))] [(.int p1), (.int p0), (.int (1 : Int32))])) _
    refine XS.icmpNo X9.here hx rfl (hb hby at_76) rfl (tlt hc76).2.1 ?_
    show Steps p.tables e below (T9.setTop (mkF m 79 #[.val (.int p0), .val (.int p1), .val (.int p2), .val (.ref m0), .val (.double (FP.i2d p0)), .second, .val (.double (FP.i2d p1)), .second, .val (.int (1 : Int32)), .val (.int (0 : Int32)), .val (.int (0 : Int32)), .val (.int (1 : Int32))] [(.int (1 : Int32))])) _
    refine XS.iconst X9.here hx rfl (hb hby at_79) ?_
    show Steps p.tables e below (T9.setTop (mkF m 80 #[.val (.int p0), .val (.int p1), .val (.int p2), .val (.ref m0), .val (.double (FP.i2d p0)), .second, .val (.double (FP.i2d p1)), .second, .val (.int (1 : Int32)), .val (.int (0 : Int32)), .val (.int (0 : Int32)), .val (.int (1 : Int32))] [(.int (1 : Int32)), (.int (1 : Int32))])) _
    refine XS.goto X9.here hx rfl (pc0 := 80) (pc' := 84) rfl (hb hby at_80) (by decide) (by decide) ?_
    show Steps p.tables e below (T9.setTop (mkF m 84 #[.val (.int p0), .val (.int p1), .val (.int p2), .val (.ref m0), .val (.double (FP.i2d p0)), .second, .val (.double (FP.i2d p1)), .second, .val (.int (1 : Int32)), .val (.int (0 : Int32)), .val (.int (0 : Int32)), .val (.int (1 : Int32))] [(.int (1 : Int32)), (.int (1 : Int32))])) _
    refine XS.icmpNo X9.here hx rfl (hb hby at_84) rfl (teq (by decide : (1 : Int32) = (1 : Int32))).2 ?_
    show Steps p.tables e below (T9.setTop (mkF m 87 #[.val (.int p0), .val (.int p1), .val (.int p2), .val (.ref m0), .val (.double (FP.i2d p0)), .second, .val (.double (FP.i2d p1)), .second, .val (.int (1 : Int32)), .val (.int (0 : Int32)), .val (.int (0 : Int32)), .val (.int (1 : Int32))] [])) _
    refine XS.iload X9.here hx rfl (hb hby at_87) rfl ?_
    show Steps p.tables e below (T9.setTop (mkF m 89 #[.val (.int p0), .val (.int p1), .val (.int p2), .val (.ref m0), .val (.double (FP.i2d p0)), .second, .val (.double (FP.i2d p1)), .second, .val (.int (1 : Int32)), .val (.int (0 : Int32)), .val (.int (0 : Int32)), .val (.int (1 : Int32))] [(.int (0 : Int32))])) _
    refine XS.iloadN X9.here hx rfl (hb hby at_89) rfl ?_
    show Steps p.tables e below (T9.setTop (mkF m 90 #[.val (.int p0), .val (.int p1), .val (.int p2), .val (.ref m0), .val (.double (FP.i2d p0)), .second, .val (.double (FP.i2d p1)), .second, .val (.int (1 : Int32)), .val (.int (0 : Int32)), .val (.int (0 : Int32)), .val (.int (1 : Int32))] [(.int p0), (.int (0 : Int32))])) _
    refine XS.iloadN X9.here hx rfl (hb hby at_90) rfl ?_
    show Steps p.tables e below (T9.setTop (mkF m 91 #[.val (.int p0), .val (.int p1), .val (.int p2), .val (.ref m0), .val (.double (FP.i2d p0)), .second, .val (.double (FP.i2d p1)), .second, .val (.int (1 : Int32)), .val (.int (0 : Int32)), .val (.int (0 : Int32)), .val (.int (1 : Int32))] [(.int p1), (.int p0), (.int (0 : Int32))])) _
    refine XS.icmpYes X9.here hx rfl (pc0 := 91) (pc' := 98) rfl (hb hby at_91) rfl (flt hc91).2.2.2 (by decide) (by decide) ?_
    show Steps p.tables e below (T9.setTop (mkF m 98 #[.val (.int p0), .val (.int p1), .val (.int p2), .val (.ref m0), .val (.double (FP.i2d p0)), .second, .val (.double (FP.i2d p1)), .second, .val (.int (1 : Int32)), .val (.int (0 : Int32)), .val (.int (0 : Int32)), .val (.int (1 : Int32))] [(.int (0 : Int32))])) _
    refine XS.iconst X9.here hx rfl (hb hby at_98) ?_
    show Steps p.tables e below (T9.setTop (mkF m 99 #[.val (.int p0), .val (.int p1), .val (.int p2), .val (.ref m0), .val (.double (FP.i2d p0)), .second, .val (.double (FP.i2d p1)), .second, .val (.int (1 : Int32)), .val (.int (0 : Int32)), .val (.int (0 : Int32)), .val (.int (1 : Int32))] [(.int (0 : Int32)), (.int (0 : Int32))])) _
    refine XS.icmpNo X9.here hx rfl (hb hby at_99) rfl (teq (by decide : (0 : Int32) = (0 : Int32))).2 ?_
    show Steps p.tables e below (T9.setTop (mkF m 102 #[.val (.int p0), .val (.int p1), .val (.int p2), .val (.ref m0), .val (.double (FP.i2d p0)), .second, .val (.double (FP.i2d p1)), .second, .val (.int (1 : Int32)), .val (.int (0 : Int32)), .val (.int (0 : Int32)), .val (.int (1 : Int32))] [])) _
    refine XS.iload X9.here hx rfl (hb hby at_102) rfl ?_
    show Steps p.tables e below (T9.setTop (mkF m 104 #[.val (.int p0), .val (.int p1), .val (.int p2), .val (.ref m0), .val (.double (FP.i2d p0)), .second, .val (.double (FP.i2d p1)), .second, .val (.int (1 : Int32)), .val (.int (0 : Int32)), .val (.int (0 : Int32)), .val (.int (1 : Int32))] [(.int (0 : Int32))])) _
    refine XS.iload X9.here hx rfl (hb hby at_104) rfl ?_
    show Steps p.tables e below (T9.setTop (mkF m 106 #[.val (.int p0), .val (.int p1), .val (.int p2), .val (.ref m0), .val (.double (FP.i2d p0)), .second, .val (.double (FP.i2d p1)), .second, .val (.int (1 : Int32)), .val (.int (0 : Int32)), .val (.int (0 : Int32)), .val (.int (1 : Int32))] [(.int (0 : Int32)), (.int (0 : Int32))])) _
    refine XS.icmpNo X9.here hx rfl (hb hby at_106) rfl (teq (by decide : (0 : Int32) = (0 : Int32))).2 ?_
    show Steps p.tables e below (T9.setTop (mkF m 109 #[.val (.int p0), .val (.int p1), .val (.int p2), .val (.ref m0), .val (.double (FP.i2d p0)), .second, .val (.double (FP.i2d p1)), .second, .val (.int (1 : Int32)), .val (.int (0 : Int32)), .val (.int (0 : Int32)), .val (.int (1 : Int32))] [])) _
    refine XS.iload X9.here hx rfl (hb hby at_109) rfl ?_
    show Steps p.tables e below (T9.setTop (mkF m 111 #[.val (.int p0), .val (.int p1), .val (.int p2), .val (.ref m0), .val (.double (FP.i2d p0)), .second, .val (.double (FP.i2d p1)), .second, .val (.int (1 : Int32)), .val (.int (0 : Int32)), .val (.int (0 : Int32)), .val (.int (1 : Int32))] [(.int (1 : Int32))])) _
    refine XS.ifNo X9.here hx rfl (hb hby at_111) rfl ((if0 _ _).trans (feq (by decide : ¬ ((1 : Int32) = (0 : Int32)))).1) ?_
    show Steps p.tables e below (T9.setTop (mkF m 114 #[.val (.int p0), .val (.int p1), .val (.int p2), .val (.ref m0), .val (.double (FP.i2d p0)), .second, .val (.double (FP.i2d p1)), .second, .val (.int (1 : Int32)), .val (.int (0 : Int32)), .val (.int (0 : Int32)), .val (.int (1 : Int32))] [])) _
    refine XS.iconst X9.here hx rfl (hb hby at_114) ?_
    show Steps p.tables e below (T9.setTop (mkF m 115 #[.val (.int p0), .val (.int p1), .val (.int p2), .val (.ref m0), .val (.double (FP.i2d p0)), .second, .val (.double (FP.i2d p1)), .second, .val (.int (1 : Int32)), .val (.int (0 : Int32)), .val (.int (0 : Int32)), .val (.int (1 : Int32))] [(.int (1 : Int32))])) _
    refine XS.goto X9.here hx rfl (pc0 := 115) (pc' := 119) rfl (hb hby at_115) (by decide) (by decide) ?_
    show Steps p.tables e below (T9.setTop (mkF m 119 #[.val (.int p0), .val (.int p1), .val (.int p2), .val (.ref m0), .val (.double (FP.i2d p0)), .second, .val (.double (FP.i2d p1)), .second, .val (.int (1 : Int32)), .val (.int (0 : Int32)), .val (.int (0 : Int32)), .val (.int (1 : Int32))] [(.int (1 : Int32))])) _
    exact retN X9 hx (t := .boolean) Bd.returns (by simp) (hb hby at_119) hr
  · show Q0 n0 _ T9.heap _
    rw [e9]
    exact ⟨rfl, N9⟩
set_option maxRecDepth 65536 in
set_option maxHeartbeats 40000000 in
theorem rm0_0_1 (l : Launch) (Z : State) (a0 : Array Value) (hw : ∀ d ∈ tables_1, d.before a0 Z = true) (ws : List Jvm.Cond) (p0 : Int32) (p1 : Int32) (p2 : Int32) (m0 : Addr) (m1 : Addr) (h0 : Heap) (n0 : Nat) (Z0 : n0 ≤ h0.size) (S_MIN : Sta Z h0 "com/example/hedge/hedge/Direction" "MIN" "Lcom/example/hedge/hedge/Direction;" (.ref m0)) (S_MAX : Sta Z h0 "com/example/hedge/hedge/Direction" "MAX" "Lcom/example/hedge/hedge/Direction;" (.ref m1)) (E_m0 : Exa Z h0 m0 "com/example/hedge/hedge/Direction") (E_m1 : Exa Z h0 m1 "com/example/hedge/hedge/Direction") (ne_m1_m0 : m1 ≠ m0) (hc3 : ¬ ((p2 &&& (1 : Int32)) = (0 : Int32))) (hd9_31 : (cmpValue (FP.dcmp (FP.i2d p0) (FP.i2d p1)) .g) = (-1 : Int32)) (hd23_43 : (cmpValue (FP.dcmp (FP.i2d p0) (FP.i2d p1)) .l) = (-1 : Int32)) (hd9_55 : (cmpValue (FP.dcmp (FP.i2d p1) (FP.i2d p0)) .g) = (1 : Int32)) (hd23_67 : (cmpValue (FP.dcmp (FP.i2d p0) (18442240474082181120 : UInt64)) .l) = (1 : Int32)) (hc76 : p0 < p1) (hc91 : ¬ (p1 < p0)) :
    MetFree l x (head1 (Jvm.Cond.code x code maxLocals ret :: ws) room_1) (fun a U => a = #[(.int p0), (.int p1), (.int p2)] ∧ Z.Warmed39 U.vm ∧ U.heap = h0) (fun _ _ _ _ _ => True) (fun _ U o U' => ∃ v L, o = .returned v ∧ Q0 n0 v U'.heap L ∧ FrameEnd U o U' L room_1.cells room_1.slots) := by
  refine MetFree.of_bodySF (plainFor_of_name pn_com_example_hedge_hedge_DirectionImprovesPinLaw) hisR ?_
  intro p e s m args below meth c s₁ Bd hml0 hP hK
  obtain ⟨rfl, hZ, hh⟩ := hP
  have hx := Bd.exec
  have hby := Bd.bytes
  have hml : c.maxLocals = 12 := hml0
  have hown : s.vm.findClass "com/example/hedge/hedge/DirectionImprovesPinLaw" = some m.cls := findClass_of_methodNamed Bd.named
  have hnm := (name_of_methodNamed Bd.named Bd.method).1
  have X0 : Stand p l e room_1 s m #[(.int p0), (.int p1), (.int p2)] below meth c s₁ [] 0 0 := Stand.of_body Bd
  have e0 : s₁.heap = h0 := by rw [← hh, Bd.state]; rfl
  have N0 := Fr.nil n0
  have pre0 : ∀ t, Steps p.tables e below (s₁.setTop (mkF m 0 #[.val (.int p0), .val (.int p1), .val (.int p2), .unset, .unset, .unset, .unset, .unset, .unset, .unset, .unset, .unset] [])) t → Steps p.tables e below (s₁.setTop (entryFrame m #[(.int p0), (.int p1), (.int p2)] maxLocals)) t := fun t k => castTop (ef_0_III m p0 p1 p2) k
  obtain ⟨T1, X1, e1, st1⟩ := getS2 X0 hx hZ hown (host := "") (Or.inl (hw _ (List.mem_of_getElem? (i := 9) rfl))) Via.refl e0 S_MAX (g := (mkF m 6 #[.val (.int p0), .val (.int p1), .val (.int p2), .unset, .unset, .unset, .unset, .unset, .unset, .unset, .unset, .unset] [])) rfl (hb hby at_6)
  obtain ⟨T2, X2, e2, st2⟩ := getS2 X1 hx hZ hown (host := "") (Or.inl (hw _ (List.mem_of_getElem? (i := 0) rfl))) Via.refl e1 S_MIN (g := (mkF m 24 #[.val (.int p0), .val (.int p1), .val (.int p2), .val (.ref m1), .val (.double (FP.i2d p0)), .second, .val (.double (FP.i2d p1)), .second, .unset, .unset, .unset, .unset] [])) rfl (hb hby at_24)
  obtain ⟨cq3, kq3, q3a, q3b, q3c⟩ := isOf hZ e2 E_m0
  obtain ⟨_, _, ⟨T3, L3, k3, n3⟩, -, X3, ⟨Lc3, hQ3, l3, y3, z3⟩, st3⟩ := X2.virtualBack hx (y := (⟨"com/example/hedge/hedge/Direction", "improves", "(DD)Z"⟩ : MethodName)) (z := (⟨"com/example/hedge/hedge/Direction", "improves", "(DD)Z"⟩ : MethodName)) hown (mvT hZ (hw _ (List.mem_of_getElem? (i := 3) rfl))) (mvT hZ (hw _ (List.mem_of_getElem? (i := 4) rfl))) (notFace_of_selects (args := #[]) (mvT hZ (hw _ (List.mem_of_getElem? (i := 6) rfl)))) (mvT hZ (hw _ (List.mem_of_getElem? (i := 6) rfl))) (mvT hZ (hw _ (List.mem_of_getElem? (i := 5) rfl))) (by decide) (backOf (W := 0) (rm1m0 l Z a0 hw [] m0 (FP.i2d p0) (FP.i2d p1) h0 n0 Z0 S_MIN hd9_31) hZ (hw _ (List.mem_of_getElem? (i := 7) rfl)) (hw _ (List.mem_of_getElem? (i := 1) rfl)) (by decide) (by decide)) q3a q3c (g := (mkF m 31 #[.val (.int p0), .val (.int p1), .val (.int p2), .val (.ref m1), .val (.double (FP.i2d p0)), .second, .val (.double (FP.i2d p1)), .second, .unset, .unset, .unset, .unset] [(.double (FP.i2d p1)), (.double (FP.i2d p0)), (.ref m0)])) rfl (by rw [hml]; rfl) (Steps.refl _) (argsL := [(.double (FP.i2d p0)), (.double (FP.i2d p1))]) (rest := []) (lenOf pd_0 rfl) rfl (by show 2 * 0 + _ ≤ _; exact Nat.le_of_eq rfl) (hb hby at_31) (fun _ _ => ⟨rfl, e2, (by decide : 0 + 0 ≤ _), (by decide : 0 + 0 ≤ _)⟩)
  dsimp only [Pt.U, Pt.locs, Pt.cells, Pt.slots] at X3 l3 y3 z3 st3 hQ3
  subst l3 y3 z3
  obtain ⟨rfl, N3q, eh3⟩ := hQ3
  have N3 := Fr.app N0 N3q
  have e3 : T3.heap = h0 := eh3
  obtain ⟨T4, X4, e4, st4⟩ := getS2 X3 hx hZ hown (host := "") (Or.inl (hw _ (List.mem_of_getElem? (i := 9) rfl))) Via.refl e3 S_MAX (g := (mkF m 36 #[.val (.int p0), .val (.int p1), .val (.int p2), .val (.ref m1), .val (.double (FP.i2d p0)), .second, .val (.double (FP.i2d p1)), .second, .val (.int (1 : Int32)), .unset, .unset, .unset] [])) rfl (hb hby at_36)
  obtain ⟨cq5, kq5, q5a, q5b, q5c⟩ := isOf hZ e4 E_m1
  obtain ⟨_, _, ⟨T5, L5, k5, n5⟩, -, X5, ⟨Lc5, hQ5, l5, y5, z5⟩, st5⟩ := X4.virtualBack hx (y := (⟨"com/example/hedge/hedge/Direction", "improves", "(DD)Z"⟩ : MethodName)) (z := (⟨"com/example/hedge/hedge/Direction", "improves", "(DD)Z"⟩ : MethodName)) hown (mvT hZ (hw _ (List.mem_of_getElem? (i := 3) rfl))) (mvT hZ (hw _ (List.mem_of_getElem? (i := 4) rfl))) (notFace_of_selects (args := #[]) (mvT hZ (hw _ (List.mem_of_getElem? (i := 6) rfl)))) (mvT hZ (hw _ (List.mem_of_getElem? (i := 6) rfl))) (mvT hZ (hw _ (List.mem_of_getElem? (i := 5) rfl))) (by decide) (backOf (W := 0) (rm1x0 l Z a0 hw [] m1 (FP.i2d p0) (FP.i2d p1) m0 h0 n0 Z0 S_MIN ne_m1_m0 hd23_43) hZ (hw _ (List.mem_of_getElem? (i := 7) rfl)) (hw _ (List.mem_of_getElem? (i := 1) rfl)) (by decide) (by decide)) q5a q5c (g := (mkF m 43 #[.val (.int p0), .val (.int p1), .val (.int p2), .val (.ref m1), .val (.double (FP.i2d p0)), .second, .val (.double (FP.i2d p1)), .second, .val (.int (1 : Int32)), .unset, .unset, .unset] [(.double (FP.i2d p1)), (.double (FP.i2d p0)), (.ref m1)])) rfl (by rw [hml]; rfl) (Steps.refl _) (argsL := [(.double (FP.i2d p0)), (.double (FP.i2d p1))]) (rest := []) (lenOf pd_0 rfl) rfl (by show 2 * 0 + _ ≤ _; exact Nat.le_of_eq rfl) (hb hby at_43) (fun _ _ => ⟨rfl, e4, (by decide : 0 + 0 ≤ _), (by decide : 0 + 0 ≤ _)⟩)
  dsimp only [Pt.U, Pt.locs, Pt.cells, Pt.slots] at X5 l5 y5 z5 st5 hQ5
  subst l5 y5 z5
  obtain ⟨rfl, N5q, eh5⟩ := hQ5
  have N5 := Fr.app N3 N5q
  have e5 : T5.heap = h0 := eh5
  obtain ⟨T6, X6, e6, st6⟩ := getS2 X5 hx hZ hown (host := "") (Or.inl (hw _ (List.mem_of_getElem? (i := 0) rfl))) Via.refl e5 S_MIN (g := (mkF m 48 #[.val (.int p0), .val (.int p1), .val (.int p2), .val (.ref m1), .val (.double (FP.i2d p0)), .second, .val (.double (FP.i2d p1)), .second, .val (.int (1 : Int32)), .val (.int (0 : Int32)), .unset, .unset] [])) rfl (hb hby at_48)
  obtain ⟨cq7, kq7, q7a, q7b, q7c⟩ := isOf hZ e6 E_m0
  obtain ⟨_, _, ⟨T7, L7, k7, n7⟩, -, X7, ⟨Lc7, hQ7, l7, y7, z7⟩, st7⟩ := X6.virtualBack hx (y := (⟨"com/example/hedge/hedge/Direction", "improves", "(DD)Z"⟩ : MethodName)) (z := (⟨"com/example/hedge/hedge/Direction", "improves", "(DD)Z"⟩ : MethodName)) hown (mvT hZ (hw _ (List.mem_of_getElem? (i := 3) rfl))) (mvT hZ (hw _ (List.mem_of_getElem? (i := 4) rfl))) (notFace_of_selects (args := #[]) (mvT hZ (hw _ (List.mem_of_getElem? (i := 6) rfl)))) (mvT hZ (hw _ (List.mem_of_getElem? (i := 6) rfl))) (mvT hZ (hw _ (List.mem_of_getElem? (i := 5) rfl))) (by decide) (backOf (W := 0) (rm1m2 l Z a0 hw [] m0 (FP.i2d p1) (FP.i2d p0) h0 n0 Z0 S_MIN hd9_55) hZ (hw _ (List.mem_of_getElem? (i := 7) rfl)) (hw _ (List.mem_of_getElem? (i := 1) rfl)) (by decide) (by decide)) q7a q7c (g := (mkF m 55 #[.val (.int p0), .val (.int p1), .val (.int p2), .val (.ref m1), .val (.double (FP.i2d p0)), .second, .val (.double (FP.i2d p1)), .second, .val (.int (1 : Int32)), .val (.int (0 : Int32)), .unset, .unset] [(.double (FP.i2d p0)), (.double (FP.i2d p1)), (.ref m0)])) rfl (by rw [hml]; rfl) (Steps.refl _) (argsL := [(.double (FP.i2d p1)), (.double (FP.i2d p0))]) (rest := []) (lenOf pd_0 rfl) rfl (by show 2 * 0 + _ ≤ _; exact Nat.le_of_eq rfl) (hb hby at_55) (fun _ _ => ⟨rfl, e6, (by decide : 0 + 0 ≤ _), (by decide : 0 + 0 ≤ _)⟩)
  dsimp only [Pt.U, Pt.locs, Pt.cells, Pt.slots] at X7 l7 y7 z7 st7 hQ7
  subst l7 y7 z7
  obtain ⟨rfl, N7q, eh7⟩ := hQ7
  have N7 := Fr.app N5 N7q
  have e7 : T7.heap = h0 := eh7
  obtain ⟨cq8, kq8, q8a, q8b, q8c⟩ := isOf hZ e7 E_m1
  obtain ⟨_, _, ⟨T8, L8, k8, n8⟩, -, X8, ⟨Lc8, hQ8, l8, y8, z8⟩, st8⟩ := X7.virtualBack hx (y := (⟨"com/example/hedge/hedge/Direction", "worst", "()D"⟩ : MethodName)) (z := (⟨"com/example/hedge/hedge/Direction", "worst", "()D"⟩ : MethodName)) hown (mvT hZ (hw _ (List.mem_of_getElem? (i := 11) rfl))) (mvT hZ (hw _ (List.mem_of_getElem? (i := 12) rfl))) (notFace_of_selects (args := #[]) (mvT hZ (hw _ (List.mem_of_getElem? (i := 14) rfl)))) (mvT hZ (hw _ (List.mem_of_getElem? (i := 14) rfl))) (mvT hZ (hw _ (List.mem_of_getElem? (i := 13) rfl))) (by decide) (backOf (W := 3) (rm2x l Z a0 hw [] m1 m0 h0 n0 Z0 S_MIN ne_m1_m0) hZ (hw _ (List.mem_of_getElem? (i := 15) rfl)) (hw _ (List.mem_of_getElem? (i := 1) rfl)) (by decide) (by decide)) q8a q8c (g := (mkF m 64 #[.val (.int p0), .val (.int p1), .val (.int p2), .val (.ref m1), .val (.double (FP.i2d p0)), .second, .val (.double (FP.i2d p1)), .second, .val (.int (1 : Int32)), .val (.int (0 : Int32)), .val (.int (0 : Int32)), .unset] [(.ref m1), (.double (FP.i2d p0)), (.ref m1)])) rfl (by rw [hml]; rfl) (Steps.refl _) (argsL := []) (rest := [(.double (FP.i2d p0)), (.ref m1)]) (lenOf pd_1 rfl) rfl (by show 2 * 0 + _ ≤ _; exact Nat.le_of_eq rfl) (hb hby at_64) (fun _ _ => ⟨rfl, e7, (by decide : 0 + 0 ≤ _), (by decide : 0 + 0 ≤ _)⟩)
  dsimp only [Pt.U, Pt.locs, Pt.cells, Pt.slots] at X8 l8 y8 z8 st8 hQ8
  subst l8 y8 z8
  obtain ⟨rfl, N8q, eh8⟩ := hQ8
  have N8 := Fr.app N7 N8q
  have e8 : T8.heap = h0 := eh8
  obtain ⟨cq9, kq9, q9a, q9b, q9c⟩ := isOf hZ e8 E_m1
  obtain ⟨_, _, ⟨T9, L9, k9, n9⟩, -, X9, ⟨Lc9, hQ9, l9, y9, z9⟩, st9⟩ := X8.virtualBack hx (y := (⟨"com/example/hedge/hedge/Direction", "improves", "(DD)Z"⟩ : MethodName)) (z := (⟨"com/example/hedge/hedge/Direction", "improves", "(DD)Z"⟩ : MethodName)) hown (mvT hZ (hw _ (List.mem_of_getElem? (i := 3) rfl))) (mvT hZ (hw _ (List.mem_of_getElem? (i := 4) rfl))) (notFace_of_selects (args := #[]) (mvT hZ (hw _ (List.mem_of_getElem? (i := 6) rfl)))) (mvT hZ (hw _ (List.mem_of_getElem? (i := 6) rfl))) (mvT hZ (hw _ (List.mem_of_getElem? (i := 5) rfl))) (by decide) (backOf (W := 0) (rm1x2 l Z a0 hw [] m1 (FP.i2d p0) (18442240474082181120 : UInt64) m0 h0 n0 Z0 S_MIN ne_m1_m0 hd23_67) hZ (hw _ (List.mem_of_getElem? (i := 7) rfl)) (hw _ (List.mem_of_getElem? (i := 1) rfl)) (by decide) (by decide)) q9a q9c (g := (mkF m 67 #[.val (.int p0), .val (.int p1), .val (.int p2), .val (.ref m1), .val (.double (FP.i2d p0)), .second, .val (.double (FP.i2d p1)), .second, .val (.int (1 : Int32)), .val (.int (0 : Int32)), .val (.int (0 : Int32)), .unset] [(.double (18442240474082181120 : UInt64)), (.double (FP.i2d p0)), (.ref m1)])) rfl (by rw [hml]; rfl) (Steps.refl _) (argsL := [(.double (FP.i2d p0)), (.double (18442240474082181120 : UInt64))]) (rest := []) (lenOf pd_0 rfl) rfl (by show 2 * 0 + _ ≤ _; exact Nat.le_of_eq rfl) (hb hby at_67) (fun _ _ => ⟨rfl, e8, (by decide : 0 + 0 ≤ _), (by decide : 0 + 0 ≤ _)⟩)
  dsimp only [Pt.U, Pt.locs, Pt.cells, Pt.slots] at X9 l9 y9 z9 st9 hQ9
  subst l9 y9 z9
  obtain ⟨rfl, N9q, eh9⟩ := hQ9
  have N9 := Fr.app N8 N9q
  have e9 : T9.heap = h0 := eh9
  obtain ⟨fs, hr, hrun, hended, hW, hsame⟩ := X9.leave (v := some (.int (1 : Int32))) (fun h => by rw [Bd.returns] at h; cases h)
  refine ⟨_, _, pre0 _ ?_, hrun, hended, _, _, rfl, ?_, ⟨_, rfl⟩, hW, hsame.mono (by decide) (by decide)⟩
  · show Steps p.tables e below (s₁.setTop (mkF m 0 #[.val (.int p0), .val (.int p1), .val (.int p2), .unset, .unset, .unset, .unset, .unset, .unset, .unset, .unset, .unset] [])) _
    refine XS.iloadN X0.here hx rfl (hb hby at_0) rfl ?_
    show Steps p.tables e below (s₁.setTop (mkF m 1 #[.val (.int p0), .val (.int p1), .val (.int p2), .unset, .unset, .unset, .unset, .unset, .unset, .unset, .unset, .unset] [(.int p2)])) _
    refine XS.iconst X0.here hx rfl (hb hby at_1) ?_
    show Steps p.tables e below (s₁.setTop (mkF m 2 #[.val (.int p0), .val (.int p1), .val (.int p2), .unset, .unset, .unset, .unset, .unset, .unset, .unset, .unset, .unset] [(.int (1 : Int32)), (.int p2)])) _
    refine XS.iand X0.here hx rfl (hb hby at_2) rfl ?_
    show Steps p.tables e below (s₁.setTop (mkF m 3 #[.val (.int p0), .val (.int p1), .val (.int p2), .unset, .unset, .unset, .unset, .unset, .unset, .unset, .unset, .unset] [(.int (p2 &&& (1 : Int32)))])) _
    refine XS.ifNo X0.here hx rfl (hb hby at_3) rfl ((if0 _ _).trans (feq hc3).1) ?_
    show Steps p.tables e below (s₁.setTop (mkF m 6 #[.val (.int p0), .val (.int p1), .val (.int p2), .unset, .unset, .unset, .unset, .unset, .unset, .unset, .unset, .unset] [])) _
    refine st1 _ ?_
    show Steps p.tables e below (T1.setTop (mkF m 9 #[.val (.int p0), .val (.int p1), .val (.int p2), .unset, .unset, .unset, .unset, .unset, .unset, .unset, .unset, .unset] [(.ref m1)])) _
    refine XS.goto X1.here hx rfl (pc0 := 9) (pc' := 15) rfl (hb hby at_9) (by decide) (by decide) ?_
    show Steps p.tables e below (T1.setTop (mkF m 15 #[.val (.int p0), .val (.int p1), .val (.int p2), .unset, .unset, .unset, .unset, .unset, .unset, .unset, .unset, .unset] [(.ref m1)])) _
    refine XS.astoreN X1.here hx rfl (hb hby at_15) rfl rfl (l' := #[.val (.int p0), .val (.int p1), .val (.int p2), .val (.ref m1), .unset, .unset, .unset, .unset, .unset, .unset, .unset, .unset]) rfl ?_
    show Steps p.tables e below (T1.setTop (mkF m 16 #[.val (.int p0), .val (.int p1), .val (.int p2), .val (.ref m1), .unset, .unset, .unset, .unset, .unset, .unset, .unset, .unset] [])) _
    refine XS.iloadN X1.here hx rfl (hb hby at_16) rfl ?_
    show Steps p.tables e below (T1.setTop (mkF m 17 #[.val (.int p0), .val (.int p1), .val (.int p2), .val (.ref m1), .unset, .unset, .unset, .unset, .unset, .unset, .unset, .unset] [(.int p0)])) _
    refine XS.i2dS X1.here hx rfl (hb hby at_17) rfl (v := (FP.i2d p0)) rfl ?_
    show Steps p.tables e below (T1.setTop (mkF m 18 #[.val (.int p0), .val (.int p1), .val (.int p2), .val (.ref m1), .unset, .unset, .unset, .unset, .unset, .unset, .unset, .unset] [(.double (FP.i2d p0))])) _
    refine XS.dstore X1.here hx rfl (hb hby at_18) rfl (l' := #[.val (.int p0), .val (.int p1), .val (.int p2), .val (.ref m1), .val (.double (FP.i2d p0)), .second, .unset, .unset, .unset, .unset, .unset, .unset]) rfl ?_
    show Steps p.tables e below (T1.setTop (mkF m 20 #[.val (.int p0), .val (.int p1), .val (.int p2), .val (.ref m1), .val (.double (FP.i2d p0)), .second, .unset, .unset, .unset, .unset, .unset, .unset] [])) _
    refine XS.iloadN X1.here hx rfl (hb hby at_20) rfl ?_
    show Steps p.tables e below (T1.setTop (mkF m 21 #[.val (.int p0), .val (.int p1), .val (.int p2), .val (.ref m1), .val (.double (FP.i2d p0)), .second, .unset, .unset, .unset, .unset, .unset, .unset] [(.int p1)])) _
    refine XS.i2dS X1.here hx rfl (hb hby at_21) rfl (v := (FP.i2d p1)) rfl ?_
    show Steps p.tables e below (T1.setTop (mkF m 22 #[.val (.int p0), .val (.int p1), .val (.int p2), .val (.ref m1), .val (.double (FP.i2d p0)), .second, .unset, .unset, .unset, .unset, .unset, .unset] [(.double (FP.i2d p1))])) _
    refine XS.dstore X1.here hx rfl (hb hby at_22) rfl (l' := #[.val (.int p0), .val (.int p1), .val (.int p2), .val (.ref m1), .val (.double (FP.i2d p0)), .second, .val (.double (FP.i2d p1)), .second, .unset, .unset, .unset, .unset]) rfl ?_
    show Steps p.tables e below (T1.setTop (mkF m 24 #[.val (.int p0), .val (.int p1), .val (.int p2), .val (.ref m1), .val (.double (FP.i2d p0)), .second, .val (.double (FP.i2d p1)), .second, .unset, .unset, .unset, .unset] [])) _
    refine st2 _ ?_
    show Steps p.tables e below (T2.setTop (mkF m 27 #[.val (.int p0), .val (.int p1), .val (.int p2), .val (.ref m1), .val (.double (FP.i2d p0)), .second, .val (.double (FP.i2d p1)), .second, .unset, .unset, .unset, .unset] [(.ref m0)])) _
    refine XS.dload X2.here hx rfl (hb hby at_27) rfl ?_
    show Steps p.tables e below (T2.setTop (mkF m 29 #[.val (.int p0), .val (.int p1), .val (.int p2), .val (.ref m1), .val (.double (FP.i2d p0)), .second, .val (.double (FP.i2d p1)), .second, .unset, .unset, .unset, .unset] [(.double (FP.i2d p0)), (.ref m0)])) _
    refine XS.dload X2.here hx rfl (hb hby at_29) rfl ?_
    show Steps p.tables e below (T2.setTop (mkF m 31 #[.val (.int p0), .val (.int p1), .val (.int p2), .val (.ref m1), .val (.double (FP.i2d p0)), .second, .val (.double (FP.i2d p1)), .second, .unset, .unset, .unset, .unset] [(.double (FP.i2d p1)), (.double (FP.i2d p0)), (.ref m0)])) _
    refine st3.trans ?_
    show Steps p.tables e below (T3.setTop (mkF m 34 #[.val (.int p0), .val (.int p1), .val (.int p2), .val (.ref m1), .val (.double (FP.i2d p0)), .second, .val (.double (FP.i2d p1)), .second, .unset, .unset, .unset, .unset] [(.int (1 : Int32))])) _
    refine XS.istore X3.here hx rfl (hb hby at_34) rfl (l' := #[.val (.int p0), .val (.int p1), .val (.int p2), .val (.ref m1), .val (.double (FP.i2d p0)), .second, .val (.double (FP.i2d p1)), .second, .val (.int (1 : Int32)), .unset, .unset, .unset]) rfl ?_
    show Steps p.tables e below (T3.setTop (mkF m 36 #[.val (.int p0), .val (.int p1), .val (.int p2), .val (.ref m1), .val (.double (FP.i2d p0)), .second, .val (.double (FP.i2d p1)), .second, .val (.int (1 : Int32)), .unset, .unset, .unset] [])) _
    refine st4 _ ?_
    show Steps p.tables e below (T4.setTop (mkF m 39 #[.val (.int p0), .val (.int p1), .val (.int p2), .val (.ref m1), .val (.double (FP.i2d p0)), .second, .val (.double (FP.i2d p1)), .second, .val (.int (1 : Int32)), .unset, .unset, .unset] [(.ref m1)])) _
    refine XS.dload X4.here hx rfl (hb hby at_39) rfl ?_
    show Steps p.tables e below (T4.setTop (mkF m 41 #[.val (.int p0), .val (.int p1), .val (.int p2), .val (.ref m1), .val (.double (FP.i2d p0)), .second, .val (.double (FP.i2d p1)), .second, .val (.int (1 : Int32)), .unset, .unset, .unset] [(.double (FP.i2d p0)), (.ref m1)])) _
    refine XS.dload X4.here hx rfl (hb hby at_41) rfl ?_
    show Steps p.tables e below (T4.setTop (mkF m 43 #[.val (.int p0), .val (.int p1), .val (.int p2), .val (.ref m1), .val (.double (FP.i2d p0)), .second, .val (.double (FP.i2d p1)), .second, .val (.int (1 : Int32)), .unset, .unset, .unset] [(.double (FP.i2d p1)), (.double (FP.i2d p0)), (.ref m1)])) _
    refine st5.trans ?_
    show Steps p.tables e below (T5.setTop (mkF m 46 #[.val (.int p0), .val (.int p1), .val (.int p2), .val (.ref m1), .val (.double (FP.i2d p0)), .second, .val (.double (FP.i2d p1)), .second, .val (.int (1 : Int32)), .unset, .unset, .unset] [(.int (0 : Int32))])) _
    refine XS.istore X5.here hx rfl (hb hby at_46) rfl (l' := #[.val (.int p0), .val (.int p1), .val (.int p2), .val (.ref m1), .val (.double (FP.i2d p0)), .second, .val (.double (FP.i2d p1)), .second, .val (.int (1 : Int32)), .val (.int (0 : Int32)), .unset, .unset]) rfl ?_
    show Steps p.tables e below (T5.setTop (mkF m 48 #[.val (.int p0), .val (.int p1), .val (.int p2), .val (.ref m1), .val (.double (FP.i2d p0)), .second, .val (.double (FP.i2d p1)), .second, .val (.int (1 : Int32)), .val (.int (0 : Int32)), .unset, .unset] [])) _
    refine st6 _ ?_
    show Steps p.tables e below (T6.setTop (mkF m 51 #[.val (.int p0), .val (.int p1), .val (.int p2), .val (.ref m1), .val (.double (FP.i2d p0)), .second, .val (.double (FP.i2d p1)), .second, .val (.int (1 : Int32)), .val (.int (0 : Int32)), .unset, .unset] [(.ref m0)])) _
    refine XS.dload X6.here hx rfl (hb hby at_51) rfl ?_
    show Steps p.tables e below (T6.setTop (mkF m 53 #[.val (.int p0), .val (.int p1), .val (.int p2), .val (.ref m1), .val (.double (FP.i2d p0)), .second, .val (.double (FP.i2d p1)), .second, .val (.int (1 : Int32)), .val (.int (0 : Int32)), .unset, .unset] [(.double (FP.i2d p1)), (.ref m0)])) _
    refine XS.dload X6.here hx rfl (hb hby at_53) rfl ?_
    show Steps p.tables e below (T6.setTop (mkF m 55 #[.val (.int p0), .val (.int p1), .val (.int p2), .val (.ref m1), .val (.double (FP.i2d p0)), .second, .val (.double (FP.i2d p1)), .second, .val (.int (1 : Int32)), .val (.int (0 : Int32)), .unset, .unset] [(.double (FP.i2d p0)), (.double (FP.i2d p1)), (.ref m0)])) _
    refine st7.trans ?_
    show Steps p.tables e below (T7.setTop (mkF m 58 #[.val (.int p0), .val (.int p1), .val (.int p2), .val (.ref m1), .val (.double (FP.i2d p0)), .second, .val (.double (FP.i2d p1)), .second, .val (.int (1 : Int32)), .val (.int (0 : Int32)), .unset, .unset] [(.int (0 : Int32))])) _
    refine XS.istore X7.here hx rfl (hb hby at_58) rfl (l' := #[.val (.int p0), .val (.int p1), .val (.int p2), .val (.ref m1), .val (.double (FP.i2d p0)), .second, .val (.double (FP.i2d p1)), .second, .val (.int (1 : Int32)), .val (.int (0 : Int32)), .val (.int (0 : Int32)), .unset]) rfl ?_
    show Steps p.tables e below (T7.setTop (mkF m 60 #[.val (.int p0), .val (.int p1), .val (.int p2), .val (.ref m1), .val (.double (FP.i2d p0)), .second, .val (.double (FP.i2d p1)), .second, .val (.int (1 : Int32)), .val (.int (0 : Int32)), .val (.int (0 : Int32)), .unset] [])) _
    refine XS.aloadN X7.here hx rfl (hb hby at_60) rfl rfl ?_
    show Steps p.tables e below (T7.setTop (mkF m 61 #[.val (.int p0), .val (.int p1), .val (.int p2), .val (.ref m1), .val (.double (FP.i2d p0)), .second, .val (.double (FP.i2d p1)), .second, .val (.int (1 : Int32)), .val (.int (0 : Int32)), .val (.int (0 : Int32)), .unset] [(.ref m1)])) _
    refine XS.dload X7.here hx rfl (hb hby at_61) rfl ?_
    show Steps p.tables e below (T7.setTop (mkF m 63 #[.val (.int p0), .val (.int p1), .val (.int p2), .val (.ref m1), .val (.double (FP.i2d p0)), .second, .val (.double (FP.i2d p1)), .second, .val (.int (1 : Int32)), .val (.int (0 : Int32)), .val (.int (0 : Int32)), .unset] [(.double (FP.i2d p0)), (.ref m1)])) _
    refine XS.aloadN X7.here hx rfl (hb hby at_63) rfl rfl ?_
    show Steps p.tables e below (T7.setTop (mkF m 64 #[.val (.int p0), .val (.int p1), .val (.int p2), .val (.ref m1), .val (.double (FP.i2d p0)), .second, .val (.double (FP.i2d p1)), .second, .val (.int (1 : Int32)), .val (.int (0 : Int32)), .val (.int (0 : Int32)), .unset] [(.ref m1), (.double (FP.i2d p0)), (.ref m1)])) _
    refine st8.trans ?_
    show Steps p.tables e below (T8.setTop (mkF m 67 #[.val (.int p0), .val (.int p1), .val (.int p2), .val (.ref m1), .val (.double (FP.i2d p0)), .second, .val (.double (FP.i2d p1)), .second, .val (.int (1 : Int32)), .val (.int (0 : Int32)), .val (.int (0 : Int32)), .unset] [(.double (18442240474082181120 : UInt64)), (.double (FP.i2d p0)), (.ref m1)])) _
    refine st9.trans ?_
    show Steps p.tables e below (T9.setTop (mkF m 70 #[.val (.int p0), .val (.int p1), .val (.int p2), .val (.ref m1), .val (.double (FP.i2d p0)), .second, .val (.double (FP.i2d p1)), .second, .val (.int (1 : Int32)), .val (.int (0 : Int32)), .val (.int (0 : Int32)), .unset] [(.int (1 : Int32))])) _
    refine XS.istore X9.here hx rfl (hb hby at_70) rfl (l' := #[.val (.int p0), .val (.int p1), .val (.int p2), .val (.ref m1), .val (.double (FP.i2d p0)), .second, .val (.double (FP.i2d p1)), .second, .val (.int (1 : Int32)), .val (.int (0 : Int32)), .val (.int (0 : Int32)), .val (.int (1 : Int32))]) rfl ?_
    show Steps p.tables e below (T9.setTop (mkF m 72 #[.val (.int p0), .val (.int p1), .val (.int p2), .val (.ref m1), .val (.double (FP.i2d p0)), .second, .val (.double (FP.i2d p1)), .second, .val (.int (1 : Int32)), .val (.int (0 : Int32)), .val (.int (0 : Int32)), .val (.int (1 : Int32))] [])) _
    refine XS.iload X9.here hx rfl (hb hby at_72) rfl ?_
    show Steps p.tables e below (T9.setTop (mkF m 74 #[.val (.int p0), .val (.int p1), .val (.int p2), .val (.ref m1), .val (.double (FP.i2d p0)), .second, .val (.double (FP.i2d p1)), .second, .val (.int (1 : Int32)), .val (.int (0 : Int32)), .val (.int (0 : Int32)), .val (.int (1 : Int32))] [(.int (1 : Int32))])) _
    refine XS.iloadN X9.here hx rfl (hb hby at_74) rfl ?_
    show Steps p.tables e below (T9.setTop (mkF m 75 #[.val (.int p0), .val (.int p1), .val (.int p2), .val (.ref m1), .val (.double (FP.i2d p0)), .second, .val (.double (FP.i2d p1)), .second, .val (.int (1 : Int32)), .val (.int (0 : Int32)), .val (.int (0 : Int32)), .val (.int (1 : Int32))] [(.int p0), (.int (1 : Int32))])) _
    refine XS.iloadN X9.here hx rfl (hb hby at_75) rfl ?_
    show Steps p.tables e below (T9.setTop (mkF m 76 #[.val (.int p0), .val (.int p1), .val (.int p2), .val (.ref m1), .val (.double (FP.i2d p0)), .second, .val (.double (FP.i2d p1)), .second, .val (.int (1 : Int32)), .val (.int (0 : Int32)), .val (.int (0 : Int32)), .val (.int (1 : Int32))] [(.int p1), (.int p0), (.int (1 : Int32))])) _
    refine XS.icmpNo X9.here hx rfl (hb hby at_76) rfl (tlt hc76).2.1 ?_
    show Steps p.tables e below (T9.setTop (mkF m 79 #[.val (.int p0), .val (.int p1), .val (.int p2), .val (.ref m1), .val (.double (FP.i2d p0)), .second, .val (.double (FP.i2d p1)), .second, .val (.int (1 : Int32)), .val (.int (0 : Int32)), .val (.int (0 : Int32)), .val (.int (1 : Int32))] [(.int (1 : Int32))])) _
    refine XS.iconst X9.here hx rfl (hb hby at_79) ?_
    show Steps p.tables e below (T9.setTop (mkF m 80 #[.val (.int p0), .val (.int p1), .val (.int p2), .val (.ref m1), .val (.double (FP.i2d p0)), .second, .val (.double (FP.i2d p1)), .second, .val (.int (1 : Int32)), .val (.int (0 : Int32)), .val (.int (0 : Int32)), .val (.int (1 : Int32))] [(.int (1 : Int32)), (.int (1 : Int32))])) _
    refine XS.goto X9.here hx rfl (pc0 := 80) (pc' := 84) rfl (hb hby at_80) (by decide) (by decide) ?_
    show Steps p.tables e below (T9.setTop (mkF m 84 #[.val (.int p0), .val (.int p1), .val (.int p2), .val (.ref m1), .val (.double (FP.i2d p0)), .second, .val (.double (FP.i2d p1)), .second, .val (.int (1 : Int32)), .val (.int (0 : Int32)), .val (.int (0 : Int32)), .val (.int (1 : Int32))] [(.int (1 : Int32)), (.int (1 : Int32))])) _
    refine XS.icmpNo X9.here hx rfl (hb hby at_84) rfl (teq (by decide : (1 : Int32) = (1 : Int32))).2 ?_
    show Steps p.tables e below (T9.setTop (mkF m 87 #[.val (.int p0), .val (.int p1), .val (.int p2), .val (.ref m1), .val (.double (FP.i2d p0)), .second, .val (.double (FP.i2d p1)), .second, .val (.int (1 : Int32)), .val (.int (0 : Int32)), .val (.int (0 : Int32)), .val (.int (1 : Int32))] [])) _
    refine XS.iload X9.here hx rfl (hb hby at_87) rfl ?_
    show Steps p.tables e below (T9.setTop (mkF m 89 #[.val (.int p0), .val (.int p1), .val (.int p2), .val (.ref m1), .val (.double (FP.i2d p0)), .second, .val (.double (FP.i2d p1)), .second, .val (.int (1 : Int32)), .val (.int (0 : Int32)), .val (.int (0 : Int32)), .val (.int (1 : Int32))] [(.int (0 : Int32))])) _
    refine XS.iloadN X9.here hx rfl (hb hby at_89) rfl ?_
    show Steps p.tables e below (T9.setTop (mkF m 90 #[.val (.int p0), .val (.int p1), .val (.int p2), .val (.ref m1), .val (.double (FP.i2d p0)), .second, .val (.double (FP.i2d p1)), .second, .val (.int (1 : Int32)), .val (.int (0 : Int32)), .val (.int (0 : Int32)), .val (.int (1 : Int32))] [(.int p0), (.int (0 : Int32))])) _
    refine XS.iloadN X9.here hx rfl (hb hby at_90) rfl ?_
    show Steps p.tables e below (T9.setTop (mkF m 91 #[.val (.int p0), .val (.int p1), .val (.int p2), .val (.ref m1), .val (.double (FP.i2d p0)), .second, .val (.double (FP.i2d p1)), .second, .val (.int (1 : Int32)), .val (.int (0 : Int32)), .val (.int (0 : Int32)), .val (.int (1 : Int32))] [(.int p1), (.int p0), (.int (0 : Int32))])) _
    refine XS.icmpYes X9.here hx rfl (pc0 := 91) (pc' := 98) rfl (hb hby at_91) rfl (flt hc91).2.2.2 (by decide) (by decide) ?_
    show Steps p.tables e below (T9.setTop (mkF m 98 #[.val (.int p0), .val (.int p1), .val (.int p2), .val (.ref m1), .val (.double (FP.i2d p0)), .second, .val (.double (FP.i2d p1)), .second, .val (.int (1 : Int32)), .val (.int (0 : Int32)), .val (.int (0 : Int32)), .val (.int (1 : Int32))] [(.int (0 : Int32))])) _
    refine XS.iconst X9.here hx rfl (hb hby at_98) ?_
    show Steps p.tables e below (T9.setTop (mkF m 99 #[.val (.int p0), .val (.int p1), .val (.int p2), .val (.ref m1), .val (.double (FP.i2d p0)), .second, .val (.double (FP.i2d p1)), .second, .val (.int (1 : Int32)), .val (.int (0 : Int32)), .val (.int (0 : Int32)), .val (.int (1 : Int32))] [(.int (0 : Int32)), (.int (0 : Int32))])) _
    refine XS.icmpNo X9.here hx rfl (hb hby at_99) rfl (teq (by decide : (0 : Int32) = (0 : Int32))).2 ?_
    show Steps p.tables e below (T9.setTop (mkF m 102 #[.val (.int p0), .val (.int p1), .val (.int p2), .val (.ref m1), .val (.double (FP.i2d p0)), .second, .val (.double (FP.i2d p1)), .second, .val (.int (1 : Int32)), .val (.int (0 : Int32)), .val (.int (0 : Int32)), .val (.int (1 : Int32))] [])) _
    refine XS.iload X9.here hx rfl (hb hby at_102) rfl ?_
    show Steps p.tables e below (T9.setTop (mkF m 104 #[.val (.int p0), .val (.int p1), .val (.int p2), .val (.ref m1), .val (.double (FP.i2d p0)), .second, .val (.double (FP.i2d p1)), .second, .val (.int (1 : Int32)), .val (.int (0 : Int32)), .val (.int (0 : Int32)), .val (.int (1 : Int32))] [(.int (0 : Int32))])) _
    refine XS.iload X9.here hx rfl (hb hby at_104) rfl ?_
    show Steps p.tables e below (T9.setTop (mkF m 106 #[.val (.int p0), .val (.int p1), .val (.int p2), .val (.ref m1), .val (.double (FP.i2d p0)), .second, .val (.double (FP.i2d p1)), .second, .val (.int (1 : Int32)), .val (.int (0 : Int32)), .val (.int (0 : Int32)), .val (.int (1 : Int32))] [(.int (0 : Int32)), (.int (0 : Int32))])) _
    refine XS.icmpNo X9.here hx rfl (hb hby at_106) rfl (teq (by decide : (0 : Int32) = (0 : Int32))).2 ?_
    show Steps p.tables e below (T9.setTop (mkF m 109 #[.val (.int p0), .val (.int p1), .val (.int p2), .val (.ref m1), .val (.double (FP.i2d p0)), .second, .val (.double (FP.i2d p1)), .second, .val (.int (1 : Int32)), .val (.int (0 : Int32)), .val (.int (0 : Int32)), .val (.int (1 : Int32))] [])) _
    refine XS.iload X9.here hx rfl (hb hby at_109) rfl ?_
    show Steps p.tables e below (T9.setTop (mkF m 111 #[.val (.int p0), .val (.int p1), .val (.int p2), .val (.ref m1), .val (.double (FP.i2d p0)), .second, .val (.double (FP.i2d p1)), .second, .val (.int (1 : Int32)), .val (.int (0 : Int32)), .val (.int (0 : Int32)), .val (.int (1 : Int32))] [(.int (1 : Int32))])) _
    refine XS.ifNo X9.here hx rfl (hb hby at_111) rfl ((if0 _ _).trans (feq (by decide : ¬ ((1 : Int32) = (0 : Int32)))).1) ?_
    show Steps p.tables e below (T9.setTop (mkF m 114 #[.val (.int p0), .val (.int p1), .val (.int p2), .val (.ref m1), .val (.double (FP.i2d p0)), .second, .val (.double (FP.i2d p1)), .second, .val (.int (1 : Int32)), .val (.int (0 : Int32)), .val (.int (0 : Int32)), .val (.int (1 : Int32))] [])) _
    refine XS.iconst X9.here hx rfl (hb hby at_114) ?_
    show Steps p.tables e below (T9.setTop (mkF m 115 #[.val (.int p0), .val (.int p1), .val (.int p2), .val (.ref m1), .val (.double (FP.i2d p0)), .second, .val (.double (FP.i2d p1)), .second, .val (.int (1 : Int32)), .val (.int (0 : Int32)), .val (.int (0 : Int32)), .val (.int (1 : Int32))] [(.int (1 : Int32))])) _
    refine XS.goto X9.here hx rfl (pc0 := 115) (pc' := 119) rfl (hb hby at_115) (by decide) (by decide) ?_
    show Steps p.tables e below (T9.setTop (mkF m 119 #[.val (.int p0), .val (.int p1), .val (.int p2), .val (.ref m1), .val (.double (FP.i2d p0)), .second, .val (.double (FP.i2d p1)), .second, .val (.int (1 : Int32)), .val (.int (0 : Int32)), .val (.int (0 : Int32)), .val (.int (1 : Int32))] [(.int (1 : Int32))])) _
    exact retN X9 hx (t := .boolean) Bd.returns (by simp) (hb hby at_119) hr
  · show Q0 n0 _ T9.heap _
    rw [e9]
    exact ⟨rfl, N9⟩
set_option maxRecDepth 65536 in
set_option maxHeartbeats 40000000 in
theorem rm0_1_0 (l : Launch) (Z : State) (a0 : Array Value) (hw : ∀ d ∈ tables_1, d.before a0 Z = true) (ws : List Jvm.Cond) (p0 : Int32) (p1 : Int32) (p2 : Int32) (m0 : Addr) (m1 : Addr) (h0 : Heap) (n0 : Nat) (Z0 : n0 ≤ h0.size) (S_MIN : Sta Z h0 "com/example/hedge/hedge/Direction" "MIN" "Lcom/example/hedge/hedge/Direction;" (.ref m0)) (S_MAX : Sta Z h0 "com/example/hedge/hedge/Direction" "MAX" "Lcom/example/hedge/hedge/Direction;" (.ref m1)) (E_m0 : Exa Z h0 m0 "com/example/hedge/hedge/Direction") (E_m1 : Exa Z h0 m1 "com/example/hedge/hedge/Direction") (ne_m1_m0 : m1 ≠ m0) (hc3 : (p2 &&& (1 : Int32)) = (0 : Int32)) (hd9_31 : (cmpValue (FP.dcmp (FP.i2d p0) (FP.i2d p1)) .g) = (0 : Int32)) (hd23_43 : (cmpValue (FP.dcmp (FP.i2d p0) (FP.i2d p1)) .l) = (0 : Int32)) (hd9_55 : (cmpValue (FP.dcmp (FP.i2d p1) (FP.i2d p0)) .g) = (0 : Int32)) (hd9_67 : (cmpValue (FP.dcmp (FP.i2d p0) (9218868437227405312 : UInt64)) .g) = (-1 : Int32)) (hc76 : ¬ (p0 < p1)) (hc91 : ¬ (p1 < p0)) :
    MetFree l x (head1 (Jvm.Cond.code x code maxLocals ret :: ws) room_1) (fun a U => a = #[(.int p0), (.int p1), (.int p2)] ∧ Z.Warmed39 U.vm ∧ U.heap = h0) (fun _ _ _ _ _ => True) (fun _ U o U' => ∃ v L, o = .returned v ∧ Q0 n0 v U'.heap L ∧ FrameEnd U o U' L room_1.cells room_1.slots) := by
  refine MetFree.of_bodySF (plainFor_of_name pn_com_example_hedge_hedge_DirectionImprovesPinLaw) hisR ?_
  intro p e s m args below meth c s₁ Bd hml0 hP hK
  obtain ⟨rfl, hZ, hh⟩ := hP
  have hx := Bd.exec
  have hby := Bd.bytes
  have hml : c.maxLocals = 12 := hml0
  have hown : s.vm.findClass "com/example/hedge/hedge/DirectionImprovesPinLaw" = some m.cls := findClass_of_methodNamed Bd.named
  have hnm := (name_of_methodNamed Bd.named Bd.method).1
  have X0 : Stand p l e room_1 s m #[(.int p0), (.int p1), (.int p2)] below meth c s₁ [] 0 0 := Stand.of_body Bd
  have e0 : s₁.heap = h0 := by rw [← hh, Bd.state]; rfl
  have N0 := Fr.nil n0
  have pre0 : ∀ t, Steps p.tables e below (s₁.setTop (mkF m 0 #[.val (.int p0), .val (.int p1), .val (.int p2), .unset, .unset, .unset, .unset, .unset, .unset, .unset, .unset, .unset] [])) t → Steps p.tables e below (s₁.setTop (entryFrame m #[(.int p0), (.int p1), (.int p2)] maxLocals)) t := fun t k => castTop (ef_0_III m p0 p1 p2) k
  obtain ⟨T1, X1, e1, st1⟩ := getS2 X0 hx hZ hown (host := "") (Or.inl (hw _ (List.mem_of_getElem? (i := 0) rfl))) Via.refl e0 S_MIN (g := (mkF m 12 #[.val (.int p0), .val (.int p1), .val (.int p2), .unset, .unset, .unset, .unset, .unset, .unset, .unset, .unset, .unset] [])) rfl (hb hby at_12)
  obtain ⟨T2, X2, e2, st2⟩ := getS2 X1 hx hZ hown (host := "") (Or.inl (hw _ (List.mem_of_getElem? (i := 0) rfl))) Via.refl e1 S_MIN (g := (mkF m 24 #[.val (.int p0), .val (.int p1), .val (.int p2), .val (.ref m0), .val (.double (FP.i2d p0)), .second, .val (.double (FP.i2d p1)), .second, .unset, .unset, .unset, .unset] [])) rfl (hb hby at_24)
  obtain ⟨cq3, kq3, q3a, q3b, q3c⟩ := isOf hZ e2 E_m0
  obtain ⟨_, _, ⟨T3, L3, k3, n3⟩, -, X3, ⟨Lc3, hQ3, l3, y3, z3⟩, st3⟩ := X2.virtualBack hx (y := (⟨"com/example/hedge/hedge/Direction", "improves", "(DD)Z"⟩ : MethodName)) (z := (⟨"com/example/hedge/hedge/Direction", "improves", "(DD)Z"⟩ : MethodName)) hown (mvT hZ (hw _ (List.mem_of_getElem? (i := 3) rfl))) (mvT hZ (hw _ (List.mem_of_getElem? (i := 4) rfl))) (notFace_of_selects (args := #[]) (mvT hZ (hw _ (List.mem_of_getElem? (i := 6) rfl)))) (mvT hZ (hw _ (List.mem_of_getElem? (i := 6) rfl))) (mvT hZ (hw _ (List.mem_of_getElem? (i := 5) rfl))) (by decide) (backOf (W := 0) (rm1m1 l Z a0 hw [] m0 (FP.i2d p0) (FP.i2d p1) h0 n0 Z0 S_MIN hd9_31) hZ (hw _ (List.mem_of_getElem? (i := 7) rfl)) (hw _ (List.mem_of_getElem? (i := 1) rfl)) (by decide) (by decide)) q3a q3c (g := (mkF m 31 #[.val (.int p0), .val (.int p1), .val (.int p2), .val (.ref m0), .val (.double (FP.i2d p0)), .second, .val (.double (FP.i2d p1)), .second, .unset, .unset, .unset, .unset] [(.double (FP.i2d p1)), (.double (FP.i2d p0)), (.ref m0)])) rfl (by rw [hml]; rfl) (Steps.refl _) (argsL := [(.double (FP.i2d p0)), (.double (FP.i2d p1))]) (rest := []) (lenOf pd_0 rfl) rfl (by show 2 * 0 + _ ≤ _; exact Nat.le_of_eq rfl) (hb hby at_31) (fun _ _ => ⟨rfl, e2, (by decide : 0 + 0 ≤ _), (by decide : 0 + 0 ≤ _)⟩)
  dsimp only [Pt.U, Pt.locs, Pt.cells, Pt.slots] at X3 l3 y3 z3 st3 hQ3
  subst l3 y3 z3
  obtain ⟨rfl, N3q, eh3⟩ := hQ3
  have N3 := Fr.app N0 N3q
  have e3 : T3.heap = h0 := eh3
  obtain ⟨T4, X4, e4, st4⟩ := getS2 X3 hx hZ hown (host := "") (Or.inl (hw _ (List.mem_of_getElem? (i := 9) rfl))) Via.refl e3 S_MAX (g := (mkF m 36 #[.val (.int p0), .val (.int p1), .val (.int p2), .val (.ref m0), .val (.double (FP.i2d p0)), .second, .val (.double (FP.i2d p1)), .second, .val (.int (0 : Int32)), .unset, .unset, .unset] [])) rfl (hb hby at_36)
  obtain ⟨cq5, kq5, q5a, q5b, q5c⟩ := isOf hZ e4 E_m1
  obtain ⟨_, _, ⟨T5, L5, k5, n5⟩, -, X5, ⟨Lc5, hQ5, l5, y5, z5⟩, st5⟩ := X4.virtualBack hx (y := (⟨"com/example/hedge/hedge/Direction", "improves", "(DD)Z"⟩ : MethodName)) (z := (⟨"com/example/hedge/hedge/Direction", "improves", "(DD)Z"⟩ : MethodName)) hown (mvT hZ (hw _ (List.mem_of_getElem? (i := 3) rfl))) (mvT hZ (hw _ (List.mem_of_getElem? (i := 4) rfl))) (notFace_of_selects (args := #[]) (mvT hZ (hw _ (List.mem_of_getElem? (i := 6) rfl)))) (mvT hZ (hw _ (List.mem_of_getElem? (i := 6) rfl))) (mvT hZ (hw _ (List.mem_of_getElem? (i := 5) rfl))) (by decide) (backOf (W := 0) (rm1x1 l Z a0 hw [] m1 (FP.i2d p0) (FP.i2d p1) m0 h0 n0 Z0 S_MIN ne_m1_m0 hd23_43) hZ (hw _ (List.mem_of_getElem? (i := 7) rfl)) (hw _ (List.mem_of_getElem? (i := 1) rfl)) (by decide) (by decide)) q5a q5c (g := (mkF m 43 #[.val (.int p0), .val (.int p1), .val (.int p2), .val (.ref m0), .val (.double (FP.i2d p0)), .second, .val (.double (FP.i2d p1)), .second, .val (.int (0 : Int32)), .unset, .unset, .unset] [(.double (FP.i2d p1)), (.double (FP.i2d p0)), (.ref m1)])) rfl (by rw [hml]; rfl) (Steps.refl _) (argsL := [(.double (FP.i2d p0)), (.double (FP.i2d p1))]) (rest := []) (lenOf pd_0 rfl) rfl (by show 2 * 0 + _ ≤ _; exact Nat.le_of_eq rfl) (hb hby at_43) (fun _ _ => ⟨rfl, e4, (by decide : 0 + 0 ≤ _), (by decide : 0 + 0 ≤ _)⟩)
  dsimp only [Pt.U, Pt.locs, Pt.cells, Pt.slots] at X5 l5 y5 z5 st5 hQ5
  subst l5 y5 z5
  obtain ⟨rfl, N5q, eh5⟩ := hQ5
  have N5 := Fr.app N3 N5q
  have e5 : T5.heap = h0 := eh5
  obtain ⟨T6, X6, e6, st6⟩ := getS2 X5 hx hZ hown (host := "") (Or.inl (hw _ (List.mem_of_getElem? (i := 0) rfl))) Via.refl e5 S_MIN (g := (mkF m 48 #[.val (.int p0), .val (.int p1), .val (.int p2), .val (.ref m0), .val (.double (FP.i2d p0)), .second, .val (.double (FP.i2d p1)), .second, .val (.int (0 : Int32)), .val (.int (0 : Int32)), .unset, .unset] [])) rfl (hb hby at_48)
  obtain ⟨cq7, kq7, q7a, q7b, q7c⟩ := isOf hZ e6 E_m0
  obtain ⟨_, _, ⟨T7, L7, k7, n7⟩, -, X7, ⟨Lc7, hQ7, l7, y7, z7⟩, st7⟩ := X6.virtualBack hx (y := (⟨"com/example/hedge/hedge/Direction", "improves", "(DD)Z"⟩ : MethodName)) (z := (⟨"com/example/hedge/hedge/Direction", "improves", "(DD)Z"⟩ : MethodName)) hown (mvT hZ (hw _ (List.mem_of_getElem? (i := 3) rfl))) (mvT hZ (hw _ (List.mem_of_getElem? (i := 4) rfl))) (notFace_of_selects (args := #[]) (mvT hZ (hw _ (List.mem_of_getElem? (i := 6) rfl)))) (mvT hZ (hw _ (List.mem_of_getElem? (i := 6) rfl))) (mvT hZ (hw _ (List.mem_of_getElem? (i := 5) rfl))) (by decide) (backOf (W := 0) (rm1m1 l Z a0 hw [] m0 (FP.i2d p1) (FP.i2d p0) h0 n0 Z0 S_MIN hd9_55) hZ (hw _ (List.mem_of_getElem? (i := 7) rfl)) (hw _ (List.mem_of_getElem? (i := 1) rfl)) (by decide) (by decide)) q7a q7c (g := (mkF m 55 #[.val (.int p0), .val (.int p1), .val (.int p2), .val (.ref m0), .val (.double (FP.i2d p0)), .second, .val (.double (FP.i2d p1)), .second, .val (.int (0 : Int32)), .val (.int (0 : Int32)), .unset, .unset] [(.double (FP.i2d p0)), (.double (FP.i2d p1)), (.ref m0)])) rfl (by rw [hml]; rfl) (Steps.refl _) (argsL := [(.double (FP.i2d p1)), (.double (FP.i2d p0))]) (rest := []) (lenOf pd_0 rfl) rfl (by show 2 * 0 + _ ≤ _; exact Nat.le_of_eq rfl) (hb hby at_55) (fun _ _ => ⟨rfl, e6, (by decide : 0 + 0 ≤ _), (by decide : 0 + 0 ≤ _)⟩)
  dsimp only [Pt.U, Pt.locs, Pt.cells, Pt.slots] at X7 l7 y7 z7 st7 hQ7
  subst l7 y7 z7
  obtain ⟨rfl, N7q, eh7⟩ := hQ7
  have N7 := Fr.app N5 N7q
  have e7 : T7.heap = h0 := eh7
  obtain ⟨cq8, kq8, q8a, q8b, q8c⟩ := isOf hZ e7 E_m0
  obtain ⟨_, _, ⟨T8, L8, k8, n8⟩, -, X8, ⟨Lc8, hQ8, l8, y8, z8⟩, st8⟩ := X7.virtualBack hx (y := (⟨"com/example/hedge/hedge/Direction", "worst", "()D"⟩ : MethodName)) (z := (⟨"com/example/hedge/hedge/Direction", "worst", "()D"⟩ : MethodName)) hown (mvT hZ (hw _ (List.mem_of_getElem? (i := 11) rfl))) (mvT hZ (hw _ (List.mem_of_getElem? (i := 12) rfl))) (notFace_of_selects (args := #[]) (mvT hZ (hw _ (List.mem_of_getElem? (i := 14) rfl)))) (mvT hZ (hw _ (List.mem_of_getElem? (i := 14) rfl))) (mvT hZ (hw _ (List.mem_of_getElem? (i := 13) rfl))) (by decide) (backOf (W := 3) (rm2m l Z a0 hw [] m0 h0 n0 Z0 S_MIN) hZ (hw _ (List.mem_of_getElem? (i := 15) rfl)) (hw _ (List.mem_of_getElem? (i := 1) rfl)) (by decide) (by decide)) q8a q8c (g := (mkF m 64 #[.val (.int p0), .val (.int p1), .val (.int p2), .val (.ref m0), .val (.double (FP.i2d p0)), .second, .val (.double (FP.i2d p1)), .second, .val (.int (0 : Int32)), .val (.int (0 : Int32)), .val (.int (0 : Int32)), .unset] [(.ref m0), (.double (FP.i2d p0)), (.ref m0)])) rfl (by rw [hml]; rfl) (Steps.refl _) (argsL := []) (rest := [(.double (FP.i2d p0)), (.ref m0)]) (lenOf pd_1 rfl) rfl (by show 2 * 0 + _ ≤ _; exact Nat.le_of_eq rfl) (hb hby at_64) (fun _ _ => ⟨rfl, e7, (by decide : 0 + 0 ≤ _), (by decide : 0 + 0 ≤ _)⟩)
  dsimp only [Pt.U, Pt.locs, Pt.cells, Pt.slots] at X8 l8 y8 z8 st8 hQ8
  subst l8 y8 z8
  obtain ⟨rfl, N8q, eh8⟩ := hQ8
  have N8 := Fr.app N7 N8q
  have e8 : T8.heap = h0 := eh8
  obtain ⟨cq9, kq9, q9a, q9b, q9c⟩ := isOf hZ e8 E_m0
  obtain ⟨_, _, ⟨T9, L9, k9, n9⟩, -, X9, ⟨Lc9, hQ9, l9, y9, z9⟩, st9⟩ := X8.virtualBack hx (y := (⟨"com/example/hedge/hedge/Direction", "improves", "(DD)Z"⟩ : MethodName)) (z := (⟨"com/example/hedge/hedge/Direction", "improves", "(DD)Z"⟩ : MethodName)) hown (mvT hZ (hw _ (List.mem_of_getElem? (i := 3) rfl))) (mvT hZ (hw _ (List.mem_of_getElem? (i := 4) rfl))) (notFace_of_selects (args := #[]) (mvT hZ (hw _ (List.mem_of_getElem? (i := 6) rfl)))) (mvT hZ (hw _ (List.mem_of_getElem? (i := 6) rfl))) (mvT hZ (hw _ (List.mem_of_getElem? (i := 5) rfl))) (by decide) (backOf (W := 0) (rm1m0 l Z a0 hw [] m0 (FP.i2d p0) (9218868437227405312 : UInt64) h0 n0 Z0 S_MIN hd9_67) hZ (hw _ (List.mem_of_getElem? (i := 7) rfl)) (hw _ (List.mem_of_getElem? (i := 1) rfl)) (by decide) (by decide)) q9a q9c (g := (mkF m 67 #[.val (.int p0), .val (.int p1), .val (.int p2), .val (.ref m0), .val (.double (FP.i2d p0)), .second, .val (.double (FP.i2d p1)), .second, .val (.int (0 : Int32)), .val (.int (0 : Int32)), .val (.int (0 : Int32)), .unset] [(.double (9218868437227405312 : UInt64)), (.double (FP.i2d p0)), (.ref m0)])) rfl (by rw [hml]; rfl) (Steps.refl _) (argsL := [(.double (FP.i2d p0)), (.double (9218868437227405312 : UInt64))]) (rest := []) (lenOf pd_0 rfl) rfl (by show 2 * 0 + _ ≤ _; exact Nat.le_of_eq rfl) (hb hby at_67) (fun _ _ => ⟨rfl, e8, (by decide : 0 + 0 ≤ _), (by decide : 0 + 0 ≤ _)⟩)
  dsimp only [Pt.U, Pt.locs, Pt.cells, Pt.slots] at X9 l9 y9 z9 st9 hQ9
  subst l9 y9 z9
  obtain ⟨rfl, N9q, eh9⟩ := hQ9
  have N9 := Fr.app N8 N9q
  have e9 : T9.heap = h0 := eh9
  obtain ⟨fs, hr, hrun, hended, hW, hsame⟩ := X9.leave (v := some (.int (1 : Int32))) (fun h => by rw [Bd.returns] at h; cases h)
  refine ⟨_, _, pre0 _ ?_, hrun, hended, _, _, rfl, ?_, ⟨_, rfl⟩, hW, hsame.mono (by decide) (by decide)⟩
  · show Steps p.tables e below (s₁.setTop (mkF m 0 #[.val (.int p0), .val (.int p1), .val (.int p2), .unset, .unset, .unset, .unset, .unset, .unset, .unset, .unset, .unset] [])) _
    refine XS.iloadN X0.here hx rfl (hb hby at_0) rfl ?_
    show Steps p.tables e below (s₁.setTop (mkF m 1 #[.val (.int p0), .val (.int p1), .val (.int p2), .unset, .unset, .unset, .unset, .unset, .unset, .unset, .unset, .unset] [(.int p2)])) _
    refine XS.iconst X0.here hx rfl (hb hby at_1) ?_
    show Steps p.tables e below (s₁.setTop (mkF m 2 #[.val (.int p0), .val (.int p1), .val (.int p2), .unset, .unset, .unset, .unset, .unset, .unset, .unset, .unset, .unset] [(.int (1 : Int32)), (.int p2)])) _
    refine XS.iand X0.here hx rfl (hb hby at_2) rfl ?_
    show Steps p.tables e below (s₁.setTop (mkF m 3 #[.val (.int p0), .val (.int p1), .val (.int p2), .unset, .unset, .unset, .unset, .unset, .unset, .unset, .unset, .unset] [(.int (p2 &&& (1 : Int32)))])) _
    refine XS.ifYes X0.here hx rfl (pc0 := 3) (pc' := 12) rfl (hb hby at_3) rfl ((if0 _ _).trans (teq hc3).1) (by decide) (by decide) ?_
    show Steps p.tables e below (s₁.setTop (mkF m 12 #[.val (.int p0), .val (.int p1), .val (.int p2), .unset, .unset, .unset, .unset, .unset, .unset, .unset, .unset, .unset] [])) _
    refine st1 _ ?_
    show Steps p.tables e below (T1.setTop (mkF m 15 #[.val (.int p0), .val (.int p1), .val (.int p2), .unset, .unset, .unset, .unset, .unset, .unset, .unset, .unset, .unset] [(.ref m0)])) _
    refine XS.astoreN X1.here hx rfl (hb hby at_15) rfl rfl (l' := #[.val (.int p0), .val (.int p1), .val (.int p2), .val (.ref m0), .unset, .unset, .unset, .unset, .unset, .unset, .unset, .unset]) rfl ?_
    show Steps p.tables e below (T1.setTop (mkF m 16 #[.val (.int p0), .val (.int p1), .val (.int p2), .val (.ref m0), .unset, .unset, .unset, .unset, .unset, .unset, .unset, .unset] [])) _
    refine XS.iloadN X1.here hx rfl (hb hby at_16) rfl ?_
    show Steps p.tables e below (T1.setTop (mkF m 17 #[.val (.int p0), .val (.int p1), .val (.int p2), .val (.ref m0), .unset, .unset, .unset, .unset, .unset, .unset, .unset, .unset] [(.int p0)])) _
    refine XS.i2dS X1.here hx rfl (hb hby at_17) rfl (v := (FP.i2d p0)) rfl ?_
    show Steps p.tables e below (T1.setTop (mkF m 18 #[.val (.int p0), .val (.int p1), .val (.int p2), .val (.ref m0), .unset, .unset, .unset, .unset, .unset, .unset, .unset, .unset] [(.double (FP.i2d p0))])) _
    refine XS.dstore X1.here hx rfl (hb hby at_18) rfl (l' := #[.val (.int p0), .val (.int p1), .val (.int p2), .val (.ref m0), .val (.double (FP.i2d p0)), .second, .unset, .unset, .unset, .unset, .unset, .unset]) rfl ?_
    show Steps p.tables e below (T1.setTop (mkF m 20 #[.val (.int p0), .val (.int p1), .val (.int p2), .val (.ref m0), .val (.double (FP.i2d p0)), .second, .unset, .unset, .unset, .unset, .unset, .unset] [])) _
    refine XS.iloadN X1.here hx rfl (hb hby at_20) rfl ?_
    show Steps p.tables e below (T1.setTop (mkF m 21 #[.val (.int p0), .val (.int p1), .val (.int p2), .val (.ref m0), .val (.double (FP.i2d p0)), .second, .unset, .unset, .unset, .unset, .unset, .unset] [(.int p1)])) _
    refine XS.i2dS X1.here hx rfl (hb hby at_21) rfl (v := (FP.i2d p1)) rfl ?_
    show Steps p.tables e below (T1.setTop (mkF m 22 #[.val (.int p0), .val (.int p1), .val (.int p2), .val (.ref m0), .val (.double (FP.i2d p0)), .second, .unset, .unset, .unset, .unset, .unset, .unset] [(.double (FP.i2d p1))])) _
    refine XS.dstore X1.here hx rfl (hb hby at_22) rfl (l' := #[.val (.int p0), .val (.int p1), .val (.int p2), .val (.ref m0), .val (.double (FP.i2d p0)), .second, .val (.double (FP.i2d p1)), .second, .unset, .unset, .unset, .unset]) rfl ?_
    show Steps p.tables e below (T1.setTop (mkF m 24 #[.val (.int p0), .val (.int p1), .val (.int p2), .val (.ref m0), .val (.double (FP.i2d p0)), .second, .val (.double (FP.i2d p1)), .second, .unset, .unset, .unset, .unset] [])) _
    refine st2 _ ?_
    show Steps p.tables e below (T2.setTop (mkF m 27 #[.val (.int p0), .val (.int p1), .val (.int p2), .val (.ref m0), .val (.double (FP.i2d p0)), .second, .val (.double (FP.i2d p1)), .second, .unset, .unset, .unset, .unset] [(.ref m0)])) _
    refine XS.dload X2.here hx rfl (hb hby at_27) rfl ?_
    show Steps p.tables e below (T2.setTop (mkF m 29 #[.val (.int p0), .val (.int p1), .val (.int p2), .val (.ref m0), .val (.double (FP.i2d p0)), .second, .val (.double (FP.i2d p1)), .second, .unset, .unset, .unset, .unset] [(.double (FP.i2d p0)), (.ref m0)])) _
    refine XS.dload X2.here hx rfl (hb hby at_29) rfl ?_
    show Steps p.tables e below (T2.setTop (mkF m 31 #[.val (.int p0), .val (.int p1), .val (.int p2), .val (.ref m0), .val (.double (FP.i2d p0)), .second, .val (.double (FP.i2d p1)), .second, .unset, .unset, .unset, .unset] [(.double (FP.i2d p1)), (.double (FP.i2d p0)), (.ref m0)])) _
    refine st3.trans ?_
    show Steps p.tables e below (T3.setTop (mkF m 34 #[.val (.int p0), .val (.int p1), .val (.int p2), .val (.ref m0), .val (.double (FP.i2d p0)), .second, .val (.double (FP.i2d p1)), .second, .unset, .unset, .unset, .unset] [(.int (0 : Int32))])) _
    refine XS.istore X3.here hx rfl (hb hby at_34) rfl (l' := #[.val (.int p0), .val (.int p1), .val (.int p2), .val (.ref m0), .val (.double (FP.i2d p0)), .second, .val (.double (FP.i2d p1)), .second, .val (.int (0 : Int32)), .unset, .unset, .unset]) rfl ?_
    show Steps p.tables e below (T3.setTop (mkF m 36 #[.val (.int p0), .val (.int p1), .val (.int p2), .val (.ref m0), .val (.double (FP.i2d p0)), .second, .val (.double (FP.i2d p1)), .second, .val (.int (0 : Int32)), .unset, .unset, .unset] [])) _
    refine st4 _ ?_
    show Steps p.tables e below (T4.setTop (mkF m 39 #[.val (.int p0), .val (.int p1), .val (.int p2), .val (.ref m0), .val (.double (FP.i2d p0)), .second, .val (.double (FP.i2d p1)), .second, .val (.int (0 : Int32)), .unset, .unset, .unset] [(.ref m1)])) _
    refine XS.dload X4.here hx rfl (hb hby at_39) rfl ?_
    show Steps p.tables e below (T4.setTop (mkF m 41 #[.val (.int p0), .val (.int p1), .val (.int p2), .val (.ref m0), .val (.double (FP.i2d p0)), .second, .val (.double (FP.i2d p1)), .second, .val (.int (0 : Int32)), .unset, .unset, .unset] [(.double (FP.i2d p0)), (.ref m1)])) _
    refine XS.dload X4.here hx rfl (hb hby at_41) rfl ?_
    show Steps p.tables e below (T4.setTop (mkF m 43 #[.val (.int p0), .val (.int p1), .val (.int p2), .val (.ref m0), .val (.double (FP.i2d p0)), .second, .val (.double (FP.i2d p1)), .second, .val (.int (0 : Int32)), .unset, .unset, .unset] [(.double (FP.i2d p1)), (.double (FP.i2d p0)), (.ref m1)])) _
    refine st5.trans ?_
    show Steps p.tables e below (T5.setTop (mkF m 46 #[.val (.int p0), .val (.int p1), .val (.int p2), .val (.ref m0), .val (.double (FP.i2d p0)), .second, .val (.double (FP.i2d p1)), .second, .val (.int (0 : Int32)), .unset, .unset, .unset] [(.int (0 : Int32))])) _
    refine XS.istore X5.here hx rfl (hb hby at_46) rfl (l' := #[.val (.int p0), .val (.int p1), .val (.int p2), .val (.ref m0), .val (.double (FP.i2d p0)), .second, .val (.double (FP.i2d p1)), .second, .val (.int (0 : Int32)), .val (.int (0 : Int32)), .unset, .unset]) rfl ?_
    show Steps p.tables e below (T5.setTop (mkF m 48 #[.val (.int p0), .val (.int p1), .val (.int p2), .val (.ref m0), .val (.double (FP.i2d p0)), .second, .val (.double (FP.i2d p1)), .second, .val (.int (0 : Int32)), .val (.int (0 : Int32)), .unset, .unset] [])) _
    refine st6 _ ?_
    show Steps p.tables e below (T6.setTop (mkF m 51 #[.val (.int p0), .val (.int p1), .val (.int p2), .val (.ref m0), .val (.double (FP.i2d p0)), .second, .val (.double (FP.i2d p1)), .second, .val (.int (0 : Int32)), .val (.int (0 : Int32)), .unset, .unset] [(.ref m0)])) _
    refine XS.dload X6.here hx rfl (hb hby at_51) rfl ?_
    show Steps p.tables e below (T6.setTop (mkF m 53 #[.val (.int p0), .val (.int p1), .val (.int p2), .val (.ref m0), .val (.double (FP.i2d p0)), .second, .val (.double (FP.i2d p1)), .second, .val (.int (0 : Int32)), .val (.int (0 : Int32)), .unset, .unset] [(.double (FP.i2d p1)), (.ref m0)])) _
    refine XS.dload X6.here hx rfl (hb hby at_53) rfl ?_
    show Steps p.tables e below (T6.setTop (mkF m 55 #[.val (.int p0), .val (.int p1), .val (.int p2), .val (.ref m0), .val (.double (FP.i2d p0)), .second, .val (.double (FP.i2d p1)), .second, .val (.int (0 : Int32)), .val (.int (0 : Int32)), .unset, .unset] [(.double (FP.i2d p0)), (.double (FP.i2d p1)), (.ref m0)])) _
    refine st7.trans ?_
    show Steps p.tables e below (T7.setTop (mkF m 58 #[.val (.int p0), .val (.int p1), .val (.int p2), .val (.ref m0), .val (.double (FP.i2d p0)), .second, .val (.double (FP.i2d p1)), .second, .val (.int (0 : Int32)), .val (.int (0 : Int32)), .unset, .unset] [(.int (0 : Int32))])) _
    refine XS.istore X7.here hx rfl (hb hby at_58) rfl (l' := #[.val (.int p0), .val (.int p1), .val (.int p2), .val (.ref m0), .val (.double (FP.i2d p0)), .second, .val (.double (FP.i2d p1)), .second, .val (.int (0 : Int32)), .val (.int (0 : Int32)), .val (.int (0 : Int32)), .unset]) rfl ?_
    show Steps p.tables e below (T7.setTop (mkF m 60 #[.val (.int p0), .val (.int p1), .val (.int p2), .val (.ref m0), .val (.double (FP.i2d p0)), .second, .val (.double (FP.i2d p1)), .second, .val (.int (0 : Int32)), .val (.int (0 : Int32)), .val (.int (0 : Int32)), .unset] [])) _
    refine XS.aloadN X7.here hx rfl (hb hby at_60) rfl rfl ?_
    show Steps p.tables e below (T7.setTop (mkF m 61 #[.val (.int p0), .val (.int p1), .val (.int p2), .val (.ref m0), .val (.double (FP.i2d p0)), .second, .val (.double (FP.i2d p1)), .second, .val (.int (0 : Int32)), .val (.int (0 : Int32)), .val (.int (0 : Int32)), .unset] [(.ref m0)])) _
    refine XS.dload X7.here hx rfl (hb hby at_61) rfl ?_
    show Steps p.tables e below (T7.setTop (mkF m 63 #[.val (.int p0), .val (.int p1), .val (.int p2), .val (.ref m0), .val (.double (FP.i2d p0)), .second, .val (.double (FP.i2d p1)), .second, .val (.int (0 : Int32)), .val (.int (0 : Int32)), .val (.int (0 : Int32)), .unset] [(.double (FP.i2d p0)), (.ref m0)])) _
    refine XS.aloadN X7.here hx rfl (hb hby at_63) rfl rfl ?_
    show Steps p.tables e below (T7.setTop (mkF m 64 #[.val (.int p0), .val (.int p1), .val (.int p2), .val (.ref m0), .val (.double (FP.i2d p0)), .second, .val (.double (FP.i2d p1)), .second, .val (.int (0 : Int32)), .val (.int (0 : Int32)), .val (.int (0 : Int32)), .unset] [(.ref m0), (.double (FP.i2d p0)), (.ref m0)])) _
    refine st8.trans ?_
    show Steps p.tables e below (T8.setTop (mkF m 67 #[.val (.int p0), .val (.int p1), .val (.int p2), .val (.ref m0), .val (.double (FP.i2d p0)), .second, .val (.double (FP.i2d p1)), .second, .val (.int (0 : Int32)), .val (.int (0 : Int32)), .val (.int (0 : Int32)), .unset] [(.double (9218868437227405312 : UInt64)), (.double (FP.i2d p0)), (.ref m0)])) _
    refine st9.trans ?_
    show Steps p.tables e below (T9.setTop (mkF m 70 #[.val (.int p0), .val (.int p1), .val (.int p2), .val (.ref m0), .val (.double (FP.i2d p0)), .second, .val (.double (FP.i2d p1)), .second, .val (.int (0 : Int32)), .val (.int (0 : Int32)), .val (.int (0 : Int32)), .unset] [(.int (1 : Int32))])) _
    refine XS.istore X9.here hx rfl (hb hby at_70) rfl (l' := #[.val (.int p0), .val (.int p1), .val (.int p2), .val (.ref m0), .val (.double (FP.i2d p0)), .second, .val (.double (FP.i2d p1)), .second, .val (.int (0 : Int32)), .val (.int (0 : Int32)), .val (.int (0 : Int32)), .val (.int (1 : Int32))]) rfl ?_
    show Steps p.tables e below (T9.setTop (mkF m 72 #[.val (.int p0), .val (.int p1), .val (.int p2), .val (.ref m0), .val (.double (FP.i2d p0)), .second, .val (.double (FP.i2d p1)), .second, .val (.int (0 : Int32)), .val (.int (0 : Int32)), .val (.int (0 : Int32)), .val (.int (1 : Int32))] [])) _
    refine XS.iload X9.here hx rfl (hb hby at_72) rfl ?_
    show Steps p.tables e below (T9.setTop (mkF m 74 #[.val (.int p0), .val (.int p1), .val (.int p2), .val (.ref m0), .val (.double (FP.i2d p0)), .second, .val (.double (FP.i2d p1)), .second, .val (.int (0 : Int32)), .val (.int (0 : Int32)), .val (.int (0 : Int32)), .val (.int (1 : Int32))] [(.int (0 : Int32))])) _
    refine XS.iloadN X9.here hx rfl (hb hby at_74) rfl ?_
    show Steps p.tables e below (T9.setTop (mkF m 75 #[.val (.int p0), .val (.int p1), .val (.int p2), .val (.ref m0), .val (.double (FP.i2d p0)), .second, .val (.double (FP.i2d p1)), .second, .val (.int (0 : Int32)), .val (.int (0 : Int32)), .val (.int (0 : Int32)), .val (.int (1 : Int32))] [(.int p0), (.int (0 : Int32))])) _
    refine XS.iloadN X9.here hx rfl (hb hby at_75) rfl ?_
    show Steps p.tables e below (T9.setTop (mkF m 76 #[.val (.int p0), .val (.int p1), .val (.int p2), .val (.ref m0), .val (.double (FP.i2d p0)), .second, .val (.double (FP.i2d p1)), .second, .val (.int (0 : Int32)), .val (.int (0 : Int32)), .val (.int (0 : Int32)), .val (.int (1 : Int32))] [(.int p1), (.int p0), (.int (0 : Int32))])) _
    refine XS.icmpYes X9.here hx rfl (pc0 := 76) (pc' := 83) rfl (hb hby at_76) rfl (flt hc76).2.1 (by decide) (by decide) ?_
    show Steps p.tables e below (T9.setTop (mkF m 83 #[.val (.int p0), .val (.int p1), .val (.int p2), .val (.ref m0), .val (.double (FP.i2d p0)), .second, .val (.double (FP.i2d p1)), .second, .val (.int (0 : Int32)), .val (.int (0 : Int32)), .val (.int (0 : Int32)), .val (.int (1 : Int32))] [(.int (0 : Int32))])) _
    refine XS.iconst X9.here hx rfl (hb hby at_83) ?_
    show Steps p.tables e below (T9.setTop (mkF m 84 #[.val (.int p0), .val (.int p1), .val (.int p2), .val (.ref m0), .val (.double (FP.i2d p0)), .second, .val (.double (FP.i2d p1)), .second, .val (.int (0 : Int32)), .val (.int (0 : Int32)), .val (.int (0 : Int32)), .val (.int (1 : Int32))] [(.int (0 : Int32)), (.int (0 : Int32))])) _
    refine XS.icmpNo X9.here hx rfl (hb hby at_84) rfl (teq (by decide : (0 : Int32) = (0 : Int32))).2 ?_
    show Steps p.tables e below (T9.setTop (mkF m 87 #[.val (.int p0), .val (.int p1), .val (.int p2), .val (.ref m0), .val (.double (FP.i2d p0)), .second, .val (.double (FP.i2d p1)), .second, .val (.int (0 : Int32)), .val (.int (0 : Int32)), .val (.int (0 : Int32)), .val (.int (1 : Int32))] [])) _
    refine XS.iload X9.here hx rfl (hb hby at_87) rfl ?_
    show Steps p.tables e below (T9.setTop (mkF m 89 #[.val (.int p0), .val (.int p1), .val (.int p2), .val (.ref m0), .val (.double (FP.i2d p0)), .second, .val (.double (FP.i2d p1)), .second, .val (.int (0 : Int32)), .val (.int (0 : Int32)), .val (.int (0 : Int32)), .val (.int (1 : Int32))] [(.int (0 : Int32))])) _
    refine XS.iloadN X9.here hx rfl (hb hby at_89) rfl ?_
    show Steps p.tables e below (T9.setTop (mkF m 90 #[.val (.int p0), .val (.int p1), .val (.int p2), .val (.ref m0), .val (.double (FP.i2d p0)), .second, .val (.double (FP.i2d p1)), .second, .val (.int (0 : Int32)), .val (.int (0 : Int32)), .val (.int (0 : Int32)), .val (.int (1 : Int32))] [(.int p0), (.int (0 : Int32))])) _
    refine XS.iloadN X9.here hx rfl (hb hby at_90) rfl ?_
    show Steps p.tables e below (T9.setTop (mkF m 91 #[.val (.int p0), .val (.int p1), .val (.int p2), .val (.ref m0), .val (.double (FP.i2d p0)), .second, .val (.double (FP.i2d p1)), .second, .val (.int (0 : Int32)), .val (.int (0 : Int32)), .val (.int (0 : Int32)), .val (.int (1 : Int32))] [(.int p1), (.int p0), (.int (0 : Int32))])) _
    refine XS.icmpYes X9.here hx rfl (pc0 := 91) (pc' := 98) rfl (hb hby at_91) rfl (flt hc91).2.2.2 (by decide) (by decide) ?_
    show Steps p.tables e below (T9.setTop (mkF m 98 #[.val (.int p0), .val (.int p1), .val (.int p2), .val (.ref m0), .val (.double (FP.i2d p0)), .second, .val (.double (FP.i2d p1)), .second, .val (.int (0 : Int32)), .val (.int (0 : Int32)), .val (.int (0 : Int32)), .val (.int (1 : Int32))] [(.int (0 : Int32))])) _
    refine XS.iconst X9.here hx rfl (hb hby at_98) ?_
    show Steps p.tables e below (T9.setTop (mkF m 99 #[.val (.int p0), .val (.int p1), .val (.int p2), .val (.ref m0), .val (.double (FP.i2d p0)), .second, .val (.double (FP.i2d p1)), .second, .val (.int (0 : Int32)), .val (.int (0 : Int32)), .val (.int (0 : Int32)), .val (.int (1 : Int32))] [(.int (0 : Int32)), (.int (0 : Int32))])) _
    refine XS.icmpNo X9.here hx rfl (hb hby at_99) rfl (teq (by decide : (0 : Int32) = (0 : Int32))).2 ?_
    show Steps p.tables e below (T9.setTop (mkF m 102 #[.val (.int p0), .val (.int p1), .val (.int p2), .val (.ref m0), .val (.double (FP.i2d p0)), .second, .val (.double (FP.i2d p1)), .second, .val (.int (0 : Int32)), .val (.int (0 : Int32)), .val (.int (0 : Int32)), .val (.int (1 : Int32))] [])) _
    refine XS.iload X9.here hx rfl (hb hby at_102) rfl ?_
    show Steps p.tables e below (T9.setTop (mkF m 104 #[.val (.int p0), .val (.int p1), .val (.int p2), .val (.ref m0), .val (.double (FP.i2d p0)), .second, .val (.double (FP.i2d p1)), .second, .val (.int (0 : Int32)), .val (.int (0 : Int32)), .val (.int (0 : Int32)), .val (.int (1 : Int32))] [(.int (0 : Int32))])) _
    refine XS.iload X9.here hx rfl (hb hby at_104) rfl ?_
    show Steps p.tables e below (T9.setTop (mkF m 106 #[.val (.int p0), .val (.int p1), .val (.int p2), .val (.ref m0), .val (.double (FP.i2d p0)), .second, .val (.double (FP.i2d p1)), .second, .val (.int (0 : Int32)), .val (.int (0 : Int32)), .val (.int (0 : Int32)), .val (.int (1 : Int32))] [(.int (0 : Int32)), (.int (0 : Int32))])) _
    refine XS.icmpNo X9.here hx rfl (hb hby at_106) rfl (teq (by decide : (0 : Int32) = (0 : Int32))).2 ?_
    show Steps p.tables e below (T9.setTop (mkF m 109 #[.val (.int p0), .val (.int p1), .val (.int p2), .val (.ref m0), .val (.double (FP.i2d p0)), .second, .val (.double (FP.i2d p1)), .second, .val (.int (0 : Int32)), .val (.int (0 : Int32)), .val (.int (0 : Int32)), .val (.int (1 : Int32))] [])) _
    refine XS.iload X9.here hx rfl (hb hby at_109) rfl ?_
    show Steps p.tables e below (T9.setTop (mkF m 111 #[.val (.int p0), .val (.int p1), .val (.int p2), .val (.ref m0), .val (.double (FP.i2d p0)), .second, .val (.double (FP.i2d p1)), .second, .val (.int (0 : Int32)), .val (.int (0 : Int32)), .val (.int (0 : Int32)), .val (.int (1 : Int32))] [(.int (1 : Int32))])) _
    refine XS.ifNo X9.here hx rfl (hb hby at_111) rfl ((if0 _ _).trans (feq (by decide : ¬ ((1 : Int32) = (0 : Int32)))).1) ?_
    show Steps p.tables e below (T9.setTop (mkF m 114 #[.val (.int p0), .val (.int p1), .val (.int p2), .val (.ref m0), .val (.double (FP.i2d p0)), .second, .val (.double (FP.i2d p1)), .second, .val (.int (0 : Int32)), .val (.int (0 : Int32)), .val (.int (0 : Int32)), .val (.int (1 : Int32))] [])) _
    refine XS.iconst X9.here hx rfl (hb hby at_114) ?_
    show Steps p.tables e below (T9.setTop (mkF m 115 #[.val (.int p0), .val (.int p1), .val (.int p2), .val (.ref m0), .val (.double (FP.i2d p0)), .second, .val (.double (FP.i2d p1)), .second, .val (.int (0 : Int32)), .val (.int (0 : Int32)), .val (.int (0 : Int32)), .val (.int (1 : Int32))] [(.int (1 : Int32))])) _
    refine XS.goto X9.here hx rfl (pc0 := 115) (pc' := 119) rfl (hb hby at_115) (by decide) (by decide) ?_
    show Steps p.tables e below (T9.setTop (mkF m 119 #[.val (.int p0), .val (.int p1), .val (.int p2), .val (.ref m0), .val (.double (FP.i2d p0)), .second, .val (.double (FP.i2d p1)), .second, .val (.int (0 : Int32)), .val (.int (0 : Int32)), .val (.int (0 : Int32)), .val (.int (1 : Int32))] [(.int (1 : Int32))])) _
    exact retN X9 hx (t := .boolean) Bd.returns (by simp) (hb hby at_119) hr
  · show Q0 n0 _ T9.heap _
    rw [e9]
    exact ⟨rfl, N9⟩
set_option maxRecDepth 65536 in
set_option maxHeartbeats 40000000 in
theorem rm0_1_1 (l : Launch) (Z : State) (a0 : Array Value) (hw : ∀ d ∈ tables_1, d.before a0 Z = true) (ws : List Jvm.Cond) (p0 : Int32) (p1 : Int32) (p2 : Int32) (m0 : Addr) (m1 : Addr) (h0 : Heap) (n0 : Nat) (Z0 : n0 ≤ h0.size) (S_MIN : Sta Z h0 "com/example/hedge/hedge/Direction" "MIN" "Lcom/example/hedge/hedge/Direction;" (.ref m0)) (S_MAX : Sta Z h0 "com/example/hedge/hedge/Direction" "MAX" "Lcom/example/hedge/hedge/Direction;" (.ref m1)) (E_m0 : Exa Z h0 m0 "com/example/hedge/hedge/Direction") (E_m1 : Exa Z h0 m1 "com/example/hedge/hedge/Direction") (ne_m1_m0 : m1 ≠ m0) (hc3 : ¬ ((p2 &&& (1 : Int32)) = (0 : Int32))) (hd9_31 : (cmpValue (FP.dcmp (FP.i2d p0) (FP.i2d p1)) .g) = (0 : Int32)) (hd23_43 : (cmpValue (FP.dcmp (FP.i2d p0) (FP.i2d p1)) .l) = (0 : Int32)) (hd9_55 : (cmpValue (FP.dcmp (FP.i2d p1) (FP.i2d p0)) .g) = (0 : Int32)) (hd23_67 : (cmpValue (FP.dcmp (FP.i2d p0) (18442240474082181120 : UInt64)) .l) = (1 : Int32)) (hc76 : ¬ (p0 < p1)) (hc91 : ¬ (p1 < p0)) :
    MetFree l x (head1 (Jvm.Cond.code x code maxLocals ret :: ws) room_1) (fun a U => a = #[(.int p0), (.int p1), (.int p2)] ∧ Z.Warmed39 U.vm ∧ U.heap = h0) (fun _ _ _ _ _ => True) (fun _ U o U' => ∃ v L, o = .returned v ∧ Q0 n0 v U'.heap L ∧ FrameEnd U o U' L room_1.cells room_1.slots) := by
  refine MetFree.of_bodySF (plainFor_of_name pn_com_example_hedge_hedge_DirectionImprovesPinLaw) hisR ?_
  intro p e s m args below meth c s₁ Bd hml0 hP hK
  obtain ⟨rfl, hZ, hh⟩ := hP
  have hx := Bd.exec
  have hby := Bd.bytes
  have hml : c.maxLocals = 12 := hml0
  have hown : s.vm.findClass "com/example/hedge/hedge/DirectionImprovesPinLaw" = some m.cls := findClass_of_methodNamed Bd.named
  have hnm := (name_of_methodNamed Bd.named Bd.method).1
  have X0 : Stand p l e room_1 s m #[(.int p0), (.int p1), (.int p2)] below meth c s₁ [] 0 0 := Stand.of_body Bd
  have e0 : s₁.heap = h0 := by rw [← hh, Bd.state]; rfl
  have N0 := Fr.nil n0
  have pre0 : ∀ t, Steps p.tables e below (s₁.setTop (mkF m 0 #[.val (.int p0), .val (.int p1), .val (.int p2), .unset, .unset, .unset, .unset, .unset, .unset, .unset, .unset, .unset] [])) t → Steps p.tables e below (s₁.setTop (entryFrame m #[(.int p0), (.int p1), (.int p2)] maxLocals)) t := fun t k => castTop (ef_0_III m p0 p1 p2) k
  obtain ⟨T1, X1, e1, st1⟩ := getS2 X0 hx hZ hown (host := "") (Or.inl (hw _ (List.mem_of_getElem? (i := 9) rfl))) Via.refl e0 S_MAX (g := (mkF m 6 #[.val (.int p0), .val (.int p1), .val (.int p2), .unset, .unset, .unset, .unset, .unset, .unset, .unset, .unset, .unset] [])) rfl (hb hby at_6)
  obtain ⟨T2, X2, e2, st2⟩ := getS2 X1 hx hZ hown (host := "") (Or.inl (hw _ (List.mem_of_getElem? (i := 0) rfl))) Via.refl e1 S_MIN (g := (mkF m 24 #[.val (.int p0), .val (.int p1), .val (.int p2), .val (.ref m1), .val (.double (FP.i2d p0)), .second, .val (.double (FP.i2d p1)), .second, .unset, .unset, .unset, .unset] [])) rfl (hb hby at_24)
  obtain ⟨cq3, kq3, q3a, q3b, q3c⟩ := isOf hZ e2 E_m0
  obtain ⟨_, _, ⟨T3, L3, k3, n3⟩, -, X3, ⟨Lc3, hQ3, l3, y3, z3⟩, st3⟩ := X2.virtualBack hx (y := (⟨"com/example/hedge/hedge/Direction", "improves", "(DD)Z"⟩ : MethodName)) (z := (⟨"com/example/hedge/hedge/Direction", "improves", "(DD)Z"⟩ : MethodName)) hown (mvT hZ (hw _ (List.mem_of_getElem? (i := 3) rfl))) (mvT hZ (hw _ (List.mem_of_getElem? (i := 4) rfl))) (notFace_of_selects (args := #[]) (mvT hZ (hw _ (List.mem_of_getElem? (i := 6) rfl)))) (mvT hZ (hw _ (List.mem_of_getElem? (i := 6) rfl))) (mvT hZ (hw _ (List.mem_of_getElem? (i := 5) rfl))) (by decide) (backOf (W := 0) (rm1m1 l Z a0 hw [] m0 (FP.i2d p0) (FP.i2d p1) h0 n0 Z0 S_MIN hd9_31) hZ (hw _ (List.mem_of_getElem? (i := 7) rfl)) (hw _ (List.mem_of_getElem? (i := 1) rfl)) (by decide) (by decide)) q3a q3c (g := (mkF m 31 #[.val (.int p0), .val (.int p1), .val (.int p2), .val (.ref m1), .val (.double (FP.i2d p0)), .second, .val (.double (FP.i2d p1)), .second, .unset, .unset, .unset, .unset] [(.double (FP.i2d p1)), (.double (FP.i2d p0)), (.ref m0)])) rfl (by rw [hml]; rfl) (Steps.refl _) (argsL := [(.double (FP.i2d p0)), (.double (FP.i2d p1))]) (rest := []) (lenOf pd_0 rfl) rfl (by show 2 * 0 + _ ≤ _; exact Nat.le_of_eq rfl) (hb hby at_31) (fun _ _ => ⟨rfl, e2, (by decide : 0 + 0 ≤ _), (by decide : 0 + 0 ≤ _)⟩)
  dsimp only [Pt.U, Pt.locs, Pt.cells, Pt.slots] at X3 l3 y3 z3 st3 hQ3
  subst l3 y3 z3
  obtain ⟨rfl, N3q, eh3⟩ := hQ3
  have N3 := Fr.app N0 N3q
  have e3 : T3.heap = h0 := eh3
  obtain ⟨T4, X4, e4, st4⟩ := getS2 X3 hx hZ hown (host := "") (Or.inl (hw _ (List.mem_of_getElem? (i := 9) rfl))) Via.refl e3 S_MAX (g := (mkF m 36 #[.val (.int p0), .val (.int p1), .val (.int p2), .val (.ref m1), .val (.double (FP.i2d p0)), .second, .val (.double (FP.i2d p1)), .second, .val (.int (0 : Int32)), .unset, .unset, .unset] [])) rfl (hb hby at_36)
  obtain ⟨cq5, kq5, q5a, q5b, q5c⟩ := isOf hZ e4 E_m1
  obtain ⟨_, _, ⟨T5, L5, k5, n5⟩, -, X5, ⟨Lc5, hQ5, l5, y5, z5⟩, st5⟩ := X4.virtualBack hx (y := (⟨"com/example/hedge/hedge/Direction", "improves", "(DD)Z"⟩ : MethodName)) (z := (⟨"com/example/hedge/hedge/Direction", "improves", "(DD)Z"⟩ : MethodName)) hown (mvT hZ (hw _ (List.mem_of_getElem? (i := 3) rfl))) (mvT hZ (hw _ (List.mem_of_getElem? (i := 4) rfl))) (notFace_of_selects (args := #[]) (mvT hZ (hw _ (List.mem_of_getElem? (i := 6) rfl)))) (mvT hZ (hw _ (List.mem_of_getElem? (i := 6) rfl))) (mvT hZ (hw _ (List.mem_of_getElem? (i := 5) rfl))) (by decide) (backOf (W := 0) (rm1x1 l Z a0 hw [] m1 (FP.i2d p0) (FP.i2d p1) m0 h0 n0 Z0 S_MIN ne_m1_m0 hd23_43) hZ (hw _ (List.mem_of_getElem? (i := 7) rfl)) (hw _ (List.mem_of_getElem? (i := 1) rfl)) (by decide) (by decide)) q5a q5c (g := (mkF m 43 #[.val (.int p0), .val (.int p1), .val (.int p2), .val (.ref m1), .val (.double (FP.i2d p0)), .second, .val (.double (FP.i2d p1)), .second, .val (.int (0 : Int32)), .unset, .unset, .unset] [(.double (FP.i2d p1)), (.double (FP.i2d p0)), (.ref m1)])) rfl (by rw [hml]; rfl) (Steps.refl _) (argsL := [(.double (FP.i2d p0)), (.double (FP.i2d p1))]) (rest := []) (lenOf pd_0 rfl) rfl (by show 2 * 0 + _ ≤ _; exact Nat.le_of_eq rfl) (hb hby at_43) (fun _ _ => ⟨rfl, e4, (by decide : 0 + 0 ≤ _), (by decide : 0 + 0 ≤ _)⟩)
  dsimp only [Pt.U, Pt.locs, Pt.cells, Pt.slots] at X5 l5 y5 z5 st5 hQ5
  subst l5 y5 z5
  obtain ⟨rfl, N5q, eh5⟩ := hQ5
  have N5 := Fr.app N3 N5q
  have e5 : T5.heap = h0 := eh5
  obtain ⟨T6, X6, e6, st6⟩ := getS2 X5 hx hZ hown (host := "") (Or.inl (hw _ (List.mem_of_getElem? (i := 0) rfl))) Via.refl e5 S_MIN (g := (mkF m 48 #[.val (.int p0), .val (.int p1), .val (.int p2), .val (.ref m1), .val (.double (FP.i2d p0)), .second, .val (.double (FP.i2d p1)), .second, .val (.int (0 : Int32)), .val (.int (0 : Int32)), .unset, .unset] [])) rfl (hb hby at_48)
  obtain ⟨cq7, kq7, q7a, q7b, q7c⟩ := isOf hZ e6 E_m0
  obtain ⟨_, _, ⟨T7, L7, k7, n7⟩, -, X7, ⟨Lc7, hQ7, l7, y7, z7⟩, st7⟩ := X6.virtualBack hx (y := (⟨"com/example/hedge/hedge/Direction", "improves", "(DD)Z"⟩ : MethodName)) (z := (⟨"com/example/hedge/hedge/Direction", "improves", "(DD)Z"⟩ : MethodName)) hown (mvT hZ (hw _ (List.mem_of_getElem? (i := 3) rfl))) (mvT hZ (hw _ (List.mem_of_getElem? (i := 4) rfl))) (notFace_of_selects (args := #[]) (mvT hZ (hw _ (List.mem_of_getElem? (i := 6) rfl)))) (mvT hZ (hw _ (List.mem_of_getElem? (i := 6) rfl))) (mvT hZ (hw _ (List.mem_of_getElem? (i := 5) rfl))) (by decide) (backOf (W := 0) (rm1m1 l Z a0 hw [] m0 (FP.i2d p1) (FP.i2d p0) h0 n0 Z0 S_MIN hd9_55) hZ (hw _ (List.mem_of_getElem? (i := 7) rfl)) (hw _ (List.mem_of_getElem? (i := 1) rfl)) (by decide) (by decide)) q7a q7c (g := (mkF m 55 #[.val (.int p0), .val (.int p1), .val (.int p2), .val (.ref m1), .val (.double (FP.i2d p0)), .second, .val (.double (FP.i2d p1)), .second, .val (.int (0 : Int32)), .val (.int (0 : Int32)), .unset, .unset] [(.double (FP.i2d p0)), (.double (FP.i2d p1)), (.ref m0)])) rfl (by rw [hml]; rfl) (Steps.refl _) (argsL := [(.double (FP.i2d p1)), (.double (FP.i2d p0))]) (rest := []) (lenOf pd_0 rfl) rfl (by show 2 * 0 + _ ≤ _; exact Nat.le_of_eq rfl) (hb hby at_55) (fun _ _ => ⟨rfl, e6, (by decide : 0 + 0 ≤ _), (by decide : 0 + 0 ≤ _)⟩)
  dsimp only [Pt.U, Pt.locs, Pt.cells, Pt.slots] at X7 l7 y7 z7 st7 hQ7
  subst l7 y7 z7
  obtain ⟨rfl, N7q, eh7⟩ := hQ7
  have N7 := Fr.app N5 N7q
  have e7 : T7.heap = h0 := eh7
  obtain ⟨cq8, kq8, q8a, q8b, q8c⟩ := isOf hZ e7 E_m1
  obtain ⟨_, _, ⟨T8, L8, k8, n8⟩, -, X8, ⟨Lc8, hQ8, l8, y8, z8⟩, st8⟩ := X7.virtualBack hx (y := (⟨"com/example/hedge/hedge/Direction", "worst", "()D"⟩ : MethodName)) (z := (⟨"com/example/hedge/hedge/Direction", "worst", "()D"⟩ : MethodName)) hown (mvT hZ (hw _ (List.mem_of_getElem? (i := 11) rfl))) (mvT hZ (hw _ (List.mem_of_getElem? (i := 12) rfl))) (notFace_of_selects (args := #[]) (mvT hZ (hw _ (List.mem_of_getElem? (i := 14) rfl)))) (mvT hZ (hw _ (List.mem_of_getElem? (i := 14) rfl))) (mvT hZ (hw _ (List.mem_of_getElem? (i := 13) rfl))) (by decide) (backOf (W := 3) (rm2x l Z a0 hw [] m1 m0 h0 n0 Z0 S_MIN ne_m1_m0) hZ (hw _ (List.mem_of_getElem? (i := 15) rfl)) (hw _ (List.mem_of_getElem? (i := 1) rfl)) (by decide) (by decide)) q8a q8c (g := (mkF m 64 #[.val (.int p0), .val (.int p1), .val (.int p2), .val (.ref m1), .val (.double (FP.i2d p0)), .second, .val (.double (FP.i2d p1)), .second, .val (.int (0 : Int32)), .val (.int (0 : Int32)), .val (.int (0 : Int32)), .unset] [(.ref m1), (.double (FP.i2d p0)), (.ref m1)])) rfl (by rw [hml]; rfl) (Steps.refl _) (argsL := []) (rest := [(.double (FP.i2d p0)), (.ref m1)]) (lenOf pd_1 rfl) rfl (by show 2 * 0 + _ ≤ _; exact Nat.le_of_eq rfl) (hb hby at_64) (fun _ _ => ⟨rfl, e7, (by decide : 0 + 0 ≤ _), (by decide : 0 + 0 ≤ _)⟩)
  dsimp only [Pt.U, Pt.locs, Pt.cells, Pt.slots] at X8 l8 y8 z8 st8 hQ8
  subst l8 y8 z8
  obtain ⟨rfl, N8q, eh8⟩ := hQ8
  have N8 := Fr.app N7 N8q
  have e8 : T8.heap = h0 := eh8
  obtain ⟨cq9, kq9, q9a, q9b, q9c⟩ := isOf hZ e8 E_m1
  obtain ⟨_, _, ⟨T9, L9, k9, n9⟩, -, X9, ⟨Lc9, hQ9, l9, y9, z9⟩, st9⟩ := X8.virtualBack hx (y := (⟨"com/example/hedge/hedge/Direction", "improves", "(DD)Z"⟩ : MethodName)) (z := (⟨"com/example/hedge/hedge/Direction", "improves", "(DD)Z"⟩ : MethodName)) hown (mvT hZ (hw _ (List.mem_of_getElem? (i := 3) rfl))) (mvT hZ (hw _ (List.mem_of_getElem? (i := 4) rfl))) (notFace_of_selects (args := #[]) (mvT hZ (hw _ (List.mem_of_getElem? (i := 6) rfl)))) (mvT hZ (hw _ (List.mem_of_getElem? (i := 6) rfl))) (mvT hZ (hw _ (List.mem_of_getElem? (i := 5) rfl))) (by decide) (backOf (W := 0) (rm1x2 l Z a0 hw [] m1 (FP.i2d p0) (18442240474082181120 : UInt64) m0 h0 n0 Z0 S_MIN ne_m1_m0 hd23_67) hZ (hw _ (List.mem_of_getElem? (i := 7) rfl)) (hw _ (List.mem_of_getElem? (i := 1) rfl)) (by decide) (by decide)) q9a q9c (g := (mkF m 67 #[.val (.int p0), .val (.int p1), .val (.int p2), .val (.ref m1), .val (.double (FP.i2d p0)), .second, .val (.double (FP.i2d p1)), .second, .val (.int (0 : Int32)), .val (.int (0 : Int32)), .val (.int (0 : Int32)), .unset] [(.double (18442240474082181120 : UInt64)), (.double (FP.i2d p0)), (.ref m1)])) rfl (by rw [hml]; rfl) (Steps.refl _) (argsL := [(.double (FP.i2d p0)), (.double (18442240474082181120 : UInt64))]) (rest := []) (lenOf pd_0 rfl) rfl (by show 2 * 0 + _ ≤ _; exact Nat.le_of_eq rfl) (hb hby at_67) (fun _ _ => ⟨rfl, e8, (by decide : 0 + 0 ≤ _), (by decide : 0 + 0 ≤ _)⟩)
  dsimp only [Pt.U, Pt.locs, Pt.cells, Pt.slots] at X9 l9 y9 z9 st9 hQ9
  subst l9 y9 z9
  obtain ⟨rfl, N9q, eh9⟩ := hQ9
  have N9 := Fr.app N8 N9q
  have e9 : T9.heap = h0 := eh9
  obtain ⟨fs, hr, hrun, hended, hW, hsame⟩ := X9.leave (v := some (.int (1 : Int32))) (fun h => by rw [Bd.returns] at h; cases h)
  refine ⟨_, _, pre0 _ ?_, hrun, hended, _, _, rfl, ?_, ⟨_, rfl⟩, hW, hsame.mono (by decide) (by decide)⟩
  · show Steps p.tables e below (s₁.setTop (mkF m 0 #[.val (.int p0), .val (.int p1), .val (.int p2), .unset, .unset, .unset, .unset, .unset, .unset, .unset, .unset, .unset] [])) _
    refine XS.iloadN X0.here hx rfl (hb hby at_0) rfl ?_
    show Steps p.tables e below (s₁.setTop (mkF m 1 #[.val (.int p0), .val (.int p1), .val (.int p2), .unset, .unset, .unset, .unset, .unset, .unset, .unset, .unset, .unset] [(.int p2)])) _
    refine XS.iconst X0.here hx rfl (hb hby at_1) ?_
    show Steps p.tables e below (s₁.setTop (mkF m 2 #[.val (.int p0), .val (.int p1), .val (.int p2), .unset, .unset, .unset, .unset, .unset, .unset, .unset, .unset, .unset] [(.int (1 : Int32)), (.int p2)])) _
    refine XS.iand X0.here hx rfl (hb hby at_2) rfl ?_
    show Steps p.tables e below (s₁.setTop (mkF m 3 #[.val (.int p0), .val (.int p1), .val (.int p2), .unset, .unset, .unset, .unset, .unset, .unset, .unset, .unset, .unset] [(.int (p2 &&& (1 : Int32)))])) _
    refine XS.ifNo X0.here hx rfl (hb hby at_3) rfl ((if0 _ _).trans (feq hc3).1) ?_
    show Steps p.tables e below (s₁.setTop (mkF m 6 #[.val (.int p0), .val (.int p1), .val (.int p2), .unset, .unset, .unset, .unset, .unset, .unset, .unset, .unset, .unset] [])) _
    refine st1 _ ?_
    show Steps p.tables e below (T1.setTop (mkF m 9 #[.val (.int p0), .val (.int p1), .val (.int p2), .unset, .unset, .unset, .unset, .unset, .unset, .unset, .unset, .unset] [(.ref m1)])) _
    refine XS.goto X1.here hx rfl (pc0 := 9) (pc' := 15) rfl (hb hby at_9) (by decide) (by decide) ?_
    show Steps p.tables e below (T1.setTop (mkF m 15 #[.val (.int p0), .val (.int p1), .val (.int p2), .unset, .unset, .unset, .unset, .unset, .unset, .unset, .unset, .unset] [(.ref m1)])) _
    refine XS.astoreN X1.here hx rfl (hb hby at_15) rfl rfl (l' := #[.val (.int p0), .val (.int p1), .val (.int p2), .val (.ref m1), .unset, .unset, .unset, .unset, .unset, .unset, .unset, .unset]) rfl ?_
    show Steps p.tables e below (T1.setTop (mkF m 16 #[.val (.int p0), .val (.int p1), .val (.int p2), .val (.ref m1), .unset, .unset, .unset, .unset, .unset, .unset, .unset, .unset] [])) _
    refine XS.iloadN X1.here hx rfl (hb hby at_16) rfl ?_
    show Steps p.tables e below (T1.setTop (mkF m 17 #[.val (.int p0), .val (.int p1), .val (.int p2), .val (.ref m1), .unset, .unset, .unset, .unset, .unset, .unset, .unset, .unset] [(.int p0)])) _
    refine XS.i2dS X1.here hx rfl (hb hby at_17) rfl (v := (FP.i2d p0)) rfl ?_
    show Steps p.tables e below (T1.setTop (mkF m 18 #[.val (.int p0), .val (.int p1), .val (.int p2), .val (.ref m1), .unset, .unset, .unset, .unset, .unset, .unset, .unset, .unset] [(.double (FP.i2d p0))])) _
    refine XS.dstore X1.here hx rfl (hb hby at_18) rfl (l' := #[.val (.int p0), .val (.int p1), .val (.int p2), .val (.ref m1), .val (.double (FP.i2d p0)), .second, .unset, .unset, .unset, .unset, .unset, .unset]) rfl ?_
    show Steps p.tables e below (T1.setTop (mkF m 20 #[.val (.int p0), .val (.int p1), .val (.int p2), .val (.ref m1), .val (.double (FP.i2d p0)), .second, .unset, .unset, .unset, .unset, .unset, .unset] [])) _
    refine XS.iloadN X1.here hx rfl (hb hby at_20) rfl ?_
    show Steps p.tables e below (T1.setTop (mkF m 21 #[.val (.int p0), .val (.int p1), .val (.int p2), .val (.ref m1), .val (.double (FP.i2d p0)), .second, .unset, .unset, .unset, .unset, .unset, .unset] [(.int p1)])) _
    refine XS.i2dS X1.here hx rfl (hb hby at_21) rfl (v := (FP.i2d p1)) rfl ?_
    show Steps p.tables e below (T1.setTop (mkF m 22 #[.val (.int p0), .val (.int p1), .val (.int p2), .val (.ref m1), .val (.double (FP.i2d p0)), .second, .unset, .unset, .unset, .unset, .unset, .unset] [(.double (FP.i2d p1))])) _
    refine XS.dstore X1.here hx rfl (hb hby at_22) rfl (l' := #[.val (.int p0), .val (.int p1), .val (.int p2), .val (.ref m1), .val (.double (FP.i2d p0)), .second, .val (.double (FP.i2d p1)), .second, .unset, .unset, .unset, .unset]) rfl ?_
    show Steps p.tables e below (T1.setTop (mkF m 24 #[.val (.int p0), .val (.int p1), .val (.int p2), .val (.ref m1), .val (.double (FP.i2d p0)), .second, .val (.double (FP.i2d p1)), .second, .unset, .unset, .unset, .unset] [])) _
    refine st2 _ ?_
    show Steps p.tables e below (T2.setTop (mkF m 27 #[.val (.int p0), .val (.int p1), .val (.int p2), .val (.ref m1), .val (.double (FP.i2d p0)), .second, .val (.double (FP.i2d p1)), .second, .unset, .unset, .unset, .unset] [(.ref m0)])) _
    refine XS.dload X2.here hx rfl (hb hby at_27) rfl ?_
    show Steps p.tables e below (T2.setTop (mkF m 29 #[.val (.int p0), .val (.int p1), .val (.int p2), .val (.ref m1), .val (.double (FP.i2d p0)), .second, .val (.double (FP.i2d p1)), .second, .unset, .unset, .unset, .unset] [(.double (FP.i2d p0)), (.ref m0)])) _
    refine XS.dload X2.here hx rfl (hb hby at_29) rfl ?_
    show Steps p.tables e below (T2.setTop (mkF m 31 #[.val (.int p0), .val (.int p1), .val (.int p2), .val (.ref m1), .val (.double (FP.i2d p0)), .second, .val (.double (FP.i2d p1)), .second, .unset, .unset, .unset, .unset] [(.double (FP.i2d p1)), (.double (FP.i2d p0)), (.ref m0)])) _
    refine st3.trans ?_
    show Steps p.tables e below (T3.setTop (mkF m 34 #[.val (.int p0), .val (.int p1), .val (.int p2), .val (.ref m1), .val (.double (FP.i2d p0)), .second, .val (.double (FP.i2d p1)), .second, .unset, .unset, .unset, .unset] [(.int (0 : Int32))])) _
    refine XS.istore X3.here hx rfl (hb hby at_34) rfl (l' := #[.val (.int p0), .val (.int p1), .val (.int p2), .val (.ref m1), .val (.double (FP.i2d p0)), .second, .val (.double (FP.i2d p1)), .second, .val (.int (0 : Int32)), .unset, .unset, .unset]) rfl ?_
    show Steps p.tables e below (T3.setTop (mkF m 36 #[.val (.int p0), .val (.int p1), .val (.int p2), .val (.ref m1), .val (.double (FP.i2d p0)), .second, .val (.double (FP.i2d p1)), .second, .val (.int (0 : Int32)), .unset, .unset, .unset] [])) _
    refine st4 _ ?_
    show Steps p.tables e below (T4.setTop (mkF m 39 #[.val (.int p0), .val (.int p1), .val (.int p2), .val (.ref m1), .val (.double (FP.i2d p0)), .second, .val (.double (FP.i2d p1)), .second, .val (.int (0 : Int32)), .unset, .unset, .unset] [(.ref m1)])) _
    refine XS.dload X4.here hx rfl (hb hby at_39) rfl ?_
    show Steps p.tables e below (T4.setTop (mkF m 41 #[.val (.int p0), .val (.int p1), .val (.int p2), .val (.ref m1), .val (.double (FP.i2d p0)), .second, .val (.double (FP.i2d p1)), .second, .val (.int (0 : Int32)), .unset, .unset, .unset] [(.double (FP.i2d p0)), (.ref m1)])) _
    refine XS.dload X4.here hx rfl (hb hby at_41) rfl ?_
    show Steps p.tables e below (T4.setTop (mkF m 43 #[.val (.int p0), .val (.int p1), .val (.int p2), .val (.ref m1), .val (.double (FP.i2d p0)), .second, .val (.double (FP.i2d p1)), .second, .val (.int (0 : Int32)), .unset, .unset, .unset] [(.double (FP.i2d p1)), (.double (FP.i2d p0)), (.ref m1)])) _
    refine st5.trans ?_
    show Steps p.tables e below (T5.setTop (mkF m 46 #[.val (.int p0), .val (.int p1), .val (.int p2), .val (.ref m1), .val (.double (FP.i2d p0)), .second, .val (.double (FP.i2d p1)), .second, .val (.int (0 : Int32)), .unset, .unset, .unset] [(.int (0 : Int32))])) _
    refine XS.istore X5.here hx rfl (hb hby at_46) rfl (l' := #[.val (.int p0), .val (.int p1), .val (.int p2), .val (.ref m1), .val (.double (FP.i2d p0)), .second, .val (.double (FP.i2d p1)), .second, .val (.int (0 : Int32)), .val (.int (0 : Int32)), .unset, .unset]) rfl ?_
    show Steps p.tables e below (T5.setTop (mkF m 48 #[.val (.int p0), .val (.int p1), .val (.int p2), .val (.ref m1), .val (.double (FP.i2d p0)), .second, .val (.double (FP.i2d p1)), .second, .val (.int (0 : Int32)), .val (.int (0 : Int32)), .unset, .unset] [])) _
    refine st6 _ ?_
    show Steps p.tables e below (T6.setTop (mkF m 51 #[.val (.int p0), .val (.int p1), .val (.int p2), .val (.ref m1), .val (.double (FP.i2d p0)), .second, .val (.double (FP.i2d p1)), .second, .val (.int (0 : Int32)), .val (.int (0 : Int32)), .unset, .unset] [(.ref m0)])) _
    refine XS.dload X6.here hx rfl (hb hby at_51) rfl ?_
    show Steps p.tables e below (T6.setTop (mkF m 53 #[.val (.int p0), .val (.int p1), .val (.int p2), .val (.ref m1), .val (.double (FP.i2d p0)), .second, .val (.double (FP.i2d p1)), .second, .val (.int (0 : Int32)), .val (.int (0 : Int32)), .unset, .unset] [(.double (FP.i2d p1)), (.ref m0)])) _
    refine XS.dload X6.here hx rfl (hb hby at_53) rfl ?_
    show Steps p.tables e below (T6.setTop (mkF m 55 #[.val (.int p0), .val (.int p1), .val (.int p2), .val (.ref m1), .val (.double (FP.i2d p0)), .second, .val (.double (FP.i2d p1)), .second, .val (.int (0 : Int32)), .val (.int (0 : Int32)), .unset, .unset] [(.double (FP.i2d p0)), (.double (FP.i2d p1)), (.ref m0)])) _
    refine st7.trans ?_
    show Steps p.tables e below (T7.setTop (mkF m 58 #[.val (.int p0), .val (.int p1), .val (.int p2), .val (.ref m1), .val (.double (FP.i2d p0)), .second, .val (.double (FP.i2d p1)), .second, .val (.int (0 : Int32)), .val (.int (0 : Int32)), .unset, .unset] [(.int (0 : Int32))])) _
    refine XS.istore X7.here hx rfl (hb hby at_58) rfl (l' := #[.val (.int p0), .val (.int p1), .val (.int p2), .val (.ref m1), .val (.double (FP.i2d p0)), .second, .val (.double (FP.i2d p1)), .second, .val (.int (0 : Int32)), .val (.int (0 : Int32)), .val (.int (0 : Int32)), .unset]) rfl ?_
    show Steps p.tables e below (T7.setTop (mkF m 60 #[.val (.int p0), .val (.int p1), .val (.int p2), .val (.ref m1), .val (.double (FP.i2d p0)), .second, .val (.double (FP.i2d p1)), .second, .val (.int (0 : Int32)), .val (.int (0 : Int32)), .val (.int (0 : Int32)), .unset] [])) _
    refine XS.aloadN X7.here hx rfl (hb hby at_60) rfl rfl ?_
    show Steps p.tables e below (T7.setTop (mkF m 61 #[.val (.int p0), .val (.int p1), .val (.int p2), .val (.ref m1), .val (.double (FP.i2d p0)), .second, .val (.double (FP.i2d p1)), .second, .val (.int (0 : Int32)), .val (.int (0 : Int32)), .val (.int (0 : Int32)), .unset] [(.ref m1)])) _
    refine XS.dload X7.here hx rfl (hb hby at_61) rfl ?_
    show Steps p.tables e below (T7.setTop (mkF m 63 #[.val (.int p0), .val (.int p1), .val (.int p2), .val (.ref m1), .val (.double (FP.i2d p0)), .second, .val (.double (FP.i2d p1)), .second, .val (.int (0 : Int32)), .val (.int (0 : Int32)), .val (.int (0 : Int32)), .unset] [(.double (FP.i2d p0)), (.ref m1)])) _
    refine XS.aloadN X7.here hx rfl (hb hby at_63) rfl rfl ?_
    show Steps p.tables e below (T7.setTop (mkF m 64 #[.val (.int p0), .val (.int p1), .val (.int p2), .val (.ref m1), .val (.double (FP.i2d p0)), .second, .val (.double (FP.i2d p1)), .second, .val (.int (0 : Int32)), .val (.int (0 : Int32)), .val (.int (0 : Int32)), .unset] [(.ref m1), (.double (FP.i2d p0)), (.ref m1)])) _
    refine st8.trans ?_
    show Steps p.tables e below (T8.setTop (mkF m 67 #[.val (.int p0), .val (.int p1), .val (.int p2), .val (.ref m1), .val (.double (FP.i2d p0)), .second, .val (.double (FP.i2d p1)), .second, .val (.int (0 : Int32)), .val (.int (0 : Int32)), .val (.int (0 : Int32)), .unset] [(.double (18442240474082181120 : UInt64)), (.double (FP.i2d p0)), (.ref m1)])) _
    refine st9.trans ?_
    show Steps p.tables e below (T9.setTop (mkF m 70 #[.val (.int p0), .val (.int p1), .val (.int p2), .val (.ref m1), .val (.double (FP.i2d p0)), .second, .val (.double (FP.i2d p1)), .second, .val (.int (0 : Int32)), .val (.int (0 : Int32)), .val (.int (0 : Int32)), .unset] [(.int (1 : Int32))])) _
    refine XS.istore X9.here hx rfl (hb hby at_70) rfl (l' := #[.val (.int p0), .val (.int p1), .val (.int p2), .val (.ref m1), .val (.double (FP.i2d p0)), .second, .val (.double (FP.i2d p1)), .second, .val (.int (0 : Int32)), .val (.int (0 : Int32)), .val (.int (0 : Int32)), .val (.int (1 : Int32))]) rfl ?_
    show Steps p.tables e below (T9.setTop (mkF m 72 #[.val (.int p0), .val (.int p1), .val (.int p2), .val (.ref m1), .val (.double (FP.i2d p0)), .second, .val (.double (FP.i2d p1)), .second, .val (.int (0 : Int32)), .val (.int (0 : Int32)), .val (.int (0 : Int32)), .val (.int (1 : Int32))] [])) _
    refine XS.iload X9.here hx rfl (hb hby at_72) rfl ?_
    show Steps p.tables e below (T9.setTop (mkF m 74 #[.val (.int p0), .val (.int p1), .val (.int p2), .val (.ref m1), .val (.double (FP.i2d p0)), .second, .val (.double (FP.i2d p1)), .second, .val (.int (0 : Int32)), .val (.int (0 : Int32)), .val (.int (0 : Int32)), .val (.int (1 : Int32))] [(.int (0 : Int32))])) _
    refine XS.iloadN X9.here hx rfl (hb hby at_74) rfl ?_
    show Steps p.tables e below (T9.setTop (mkF m 75 #[.val (.int p0), .val (.int p1), .val (.int p2), .val (.ref m1), .val (.double (FP.i2d p0)), .second, .val (.double (FP.i2d p1)), .second, .val (.int (0 : Int32)), .val (.int (0 : Int32)), .val (.int (0 : Int32)), .val (.int (1 : Int32))] [(.int p0), (.int (0 : Int32))])) _
    refine XS.iloadN X9.here hx rfl (hb hby at_75) rfl ?_
    show Steps p.tables e below (T9.setTop (mkF m 76 #[.val (.int p0), .val (.int p1), .val (.int p2), .val (.ref m1), .val (.double (FP.i2d p0)), .second, .val (.double (FP.i2d p1)), .second, .val (.int (0 : Int32)), .val (.int (0 : Int32)), .val (.int (0 : Int32)), .val (.int (1 : Int32))] [(.int p1), (.int p0), (.int (0 : Int32))])) _
    refine XS.icmpYes X9.here hx rfl (pc0 := 76) (pc' := 83) rfl (hb hby at_76) rfl (flt hc76).2.1 (by decide) (by decide) ?_
    show Steps p.tables e below (T9.setTop (mkF m 83 #[.val (.int p0), .val (.int p1), .val (.int p2), .val (.ref m1), .val (.double (FP.i2d p0)), .second, .val (.double (FP.i2d p1)), .second, .val (.int (0 : Int32)), .val (.int (0 : Int32)), .val (.int (0 : Int32)), .val (.int (1 : Int32))] [(.int (0 : Int32))])) _
    refine XS.iconst X9.here hx rfl (hb hby at_83) ?_
    show Steps p.tables e below (T9.setTop (mkF m 84 #[.val (.int p0), .val (.int p1), .val (.int p2), .val (.ref m1), .val (.double (FP.i2d p0)), .second, .val (.double (FP.i2d p1)), .second, .val (.int (0 : Int32)), .val (.int (0 : Int32)), .val (.int (0 : Int32)), .val (.int (1 : Int32))] [(.int (0 : Int32)), (.int (0 : Int32))])) _
    refine XS.icmpNo X9.here hx rfl (hb hby at_84) rfl (teq (by decide : (0 : Int32) = (0 : Int32))).2 ?_
    show Steps p.tables e below (T9.setTop (mkF m 87 #[.val (.int p0), .val (.int p1), .val (.int p2), .val (.ref m1), .val (.double (FP.i2d p0)), .second, .val (.double (FP.i2d p1)), .second, .val (.int (0 : Int32)), .val (.int (0 : Int32)), .val (.int (0 : Int32)), .val (.int (1 : Int32))] [])) _
    refine XS.iload X9.here hx rfl (hb hby at_87) rfl ?_
    show Steps p.tables e below (T9.setTop (mkF m 89 #[.val (.int p0), .val (.int p1), .val (.int p2), .val (.ref m1), .val (.double (FP.i2d p0)), .second, .val (.double (FP.i2d p1)), .second, .val (.int (0 : Int32)), .val (.int (0 : Int32)), .val (.int (0 : Int32)), .val (.int (1 : Int32))] [(.int (0 : Int32))])) _
    refine XS.iloadN X9.here hx rfl (hb hby at_89) rfl ?_
    show Steps p.tables e below (T9.setTop (mkF m 90 #[.val (.int p0), .val (.int p1), .val (.int p2), .val (.ref m1), .val (.double (FP.i2d p0)), .second, .val (.double (FP.i2d p1)), .second, .val (.int (0 : Int32)), .val (.int (0 : Int32)), .val (.int (0 : Int32)), .val (.int (1 : Int32))] [(.int p0), (.int (0 : Int32))])) _
    refine XS.iloadN X9.here hx rfl (hb hby at_90) rfl ?_
    show Steps p.tables e below (T9.setTop (mkF m 91 #[.val (.int p0), .val (.int p1), .val (.int p2), .val (.ref m1), .val (.double (FP.i2d p0)), .second, .val (.double (FP.i2d p1)), .second, .val (.int (0 : Int32)), .val (.int (0 : Int32)), .val (.int (0 : Int32)), .val (.int (1 : Int32))] [(.int p1), (.int p0), (.int (0 : Int32))])) _
    refine XS.icmpYes X9.here hx rfl (pc0 := 91) (pc' := 98) rfl (hb hby at_91) rfl (flt hc91).2.2.2 (by decide) (by decide) ?_
    show Steps p.tables e below (T9.setTop (mkF m 98 #[.val (.int p0), .val (.int p1), .val (.int p2), .val (.ref m1), .val (.double (FP.i2d p0)), .second, .val (.double (FP.i2d p1)), .second, .val (.int (0 : Int32)), .val (.int (0 : Int32)), .val (.int (0 : Int32)), .val (.int (1 : Int32))] [(.int (0 : Int32))])) _
    refine XS.iconst X9.here hx rfl (hb hby at_98) ?_
    show Steps p.tables e below (T9.setTop (mkF m 99 #[.val (.int p0), .val (.int p1), .val (.int p2), .val (.ref m1), .val (.double (FP.i2d p0)), .second, .val (.double (FP.i2d p1)), .second, .val (.int (0 : Int32)), .val (.int (0 : Int32)), .val (.int (0 : Int32)), .val (.int (1 : Int32))] [(.int (0 : Int32)), (.int (0 : Int32))])) _
    refine XS.icmpNo X9.here hx rfl (hb hby at_99) rfl (teq (by decide : (0 : Int32) = (0 : Int32))).2 ?_
    show Steps p.tables e below (T9.setTop (mkF m 102 #[.val (.int p0), .val (.int p1), .val (.int p2), .val (.ref m1), .val (.double (FP.i2d p0)), .second, .val (.double (FP.i2d p1)), .second, .val (.int (0 : Int32)), .val (.int (0 : Int32)), .val (.int (0 : Int32)), .val (.int (1 : Int32))] [])) _
    refine XS.iload X9.here hx rfl (hb hby at_102) rfl ?_
    show Steps p.tables e below (T9.setTop (mkF m 104 #[.val (.int p0), .val (.int p1), .val (.int p2), .val (.ref m1), .val (.double (FP.i2d p0)), .second, .val (.double (FP.i2d p1)), .second, .val (.int (0 : Int32)), .val (.int (0 : Int32)), .val (.int (0 : Int32)), .val (.int (1 : Int32))] [(.int (0 : Int32))])) _
    refine XS.iload X9.here hx rfl (hb hby at_104) rfl ?_
    show Steps p.tables e below (T9.setTop (mkF m 106 #[.val (.int p0), .val (.int p1), .val (.int p2), .val (.ref m1), .val (.double (FP.i2d p0)), .second, .val (.double (FP.i2d p1)), .second, .val (.int (0 : Int32)), .val (.int (0 : Int32)), .val (.int (0 : Int32)), .val (.int (1 : Int32))] [(.int (0 : Int32)), (.int (0 : Int32))])) _
    refine XS.icmpNo X9.here hx rfl (hb hby at_106) rfl (teq (by decide : (0 : Int32) = (0 : Int32))).2 ?_
    show Steps p.tables e below (T9.setTop (mkF m 109 #[.val (.int p0), .val (.int p1), .val (.int p2), .val (.ref m1), .val (.double (FP.i2d p0)), .second, .val (.double (FP.i2d p1)), .second, .val (.int (0 : Int32)), .val (.int (0 : Int32)), .val (.int (0 : Int32)), .val (.int (1 : Int32))] [])) _
    refine XS.iload X9.here hx rfl (hb hby at_109) rfl ?_
    show Steps p.tables e below (T9.setTop (mkF m 111 #[.val (.int p0), .val (.int p1), .val (.int p2), .val (.ref m1), .val (.double (FP.i2d p0)), .second, .val (.double (FP.i2d p1)), .second, .val (.int (0 : Int32)), .val (.int (0 : Int32)), .val (.int (0 : Int32)), .val (.int (1 : Int32))] [(.int (1 : Int32))])) _
    refine XS.ifNo X9.here hx rfl (hb hby at_111) rfl ((if0 _ _).trans (feq (by decide : ¬ ((1 : Int32) = (0 : Int32)))).1) ?_
    show Steps p.tables e below (T9.setTop (mkF m 114 #[.val (.int p0), .val (.int p1), .val (.int p2), .val (.ref m1), .val (.double (FP.i2d p0)), .second, .val (.double (FP.i2d p1)), .second, .val (.int (0 : Int32)), .val (.int (0 : Int32)), .val (.int (0 : Int32)), .val (.int (1 : Int32))] [])) _
    refine XS.iconst X9.here hx rfl (hb hby at_114) ?_
    show Steps p.tables e below (T9.setTop (mkF m 115 #[.val (.int p0), .val (.int p1), .val (.int p2), .val (.ref m1), .val (.double (FP.i2d p0)), .second, .val (.double (FP.i2d p1)), .second, .val (.int (0 : Int32)), .val (.int (0 : Int32)), .val (.int (0 : Int32)), .val (.int (1 : Int32))] [(.int (1 : Int32))])) _
    refine XS.goto X9.here hx rfl (pc0 := 115) (pc' := 119) rfl (hb hby at_115) (by decide) (by decide) ?_
    show Steps p.tables e below (T9.setTop (mkF m 119 #[.val (.int p0), .val (.int p1), .val (.int p2), .val (.ref m1), .val (.double (FP.i2d p0)), .second, .val (.double (FP.i2d p1)), .second, .val (.int (0 : Int32)), .val (.int (0 : Int32)), .val (.int (0 : Int32)), .val (.int (1 : Int32))] [(.int (1 : Int32))])) _
    exact retN X9 hx (t := .boolean) Bd.returns (by simp) (hb hby at_119) hr
  · show Q0 n0 _ T9.heap _
    rw [e9]
    exact ⟨rfl, N9⟩
set_option maxRecDepth 65536 in
set_option maxHeartbeats 40000000 in
theorem rm0_2_0 (l : Launch) (Z : State) (a0 : Array Value) (hw : ∀ d ∈ tables_1, d.before a0 Z = true) (ws : List Jvm.Cond) (p0 : Int32) (p1 : Int32) (p2 : Int32) (m0 : Addr) (m1 : Addr) (h0 : Heap) (n0 : Nat) (Z0 : n0 ≤ h0.size) (S_MIN : Sta Z h0 "com/example/hedge/hedge/Direction" "MIN" "Lcom/example/hedge/hedge/Direction;" (.ref m0)) (S_MAX : Sta Z h0 "com/example/hedge/hedge/Direction" "MAX" "Lcom/example/hedge/hedge/Direction;" (.ref m1)) (E_m0 : Exa Z h0 m0 "com/example/hedge/hedge/Direction") (E_m1 : Exa Z h0 m1 "com/example/hedge/hedge/Direction") (ne_m1_m0 : m1 ≠ m0) (hc3 : (p2 &&& (1 : Int32)) = (0 : Int32)) (hd9_31 : (cmpValue (FP.dcmp (FP.i2d p0) (FP.i2d p1)) .g) = (1 : Int32)) (hd23_43 : (cmpValue (FP.dcmp (FP.i2d p0) (FP.i2d p1)) .l) = (1 : Int32)) (hd9_55 : (cmpValue (FP.dcmp (FP.i2d p1) (FP.i2d p0)) .g) = (-1 : Int32)) (hd9_67 : (cmpValue (FP.dcmp (FP.i2d p0) (9218868437227405312 : UInt64)) .g) = (-1 : Int32)) (hc76 : ¬ (p0 < p1)) (hc91 : p1 < p0) :
    MetFree l x (head1 (Jvm.Cond.code x code maxLocals ret :: ws) room_1) (fun a U => a = #[(.int p0), (.int p1), (.int p2)] ∧ Z.Warmed39 U.vm ∧ U.heap = h0) (fun _ _ _ _ _ => True) (fun _ U o U' => ∃ v L, o = .returned v ∧ Q0 n0 v U'.heap L ∧ FrameEnd U o U' L room_1.cells room_1.slots) := by
  refine MetFree.of_bodySF (plainFor_of_name pn_com_example_hedge_hedge_DirectionImprovesPinLaw) hisR ?_
  intro p e s m args below meth c s₁ Bd hml0 hP hK
  obtain ⟨rfl, hZ, hh⟩ := hP
  have hx := Bd.exec
  have hby := Bd.bytes
  have hml : c.maxLocals = 12 := hml0
  have hown : s.vm.findClass "com/example/hedge/hedge/DirectionImprovesPinLaw" = some m.cls := findClass_of_methodNamed Bd.named
  have hnm := (name_of_methodNamed Bd.named Bd.method).1
  have X0 : Stand p l e room_1 s m #[(.int p0), (.int p1), (.int p2)] below meth c s₁ [] 0 0 := Stand.of_body Bd
  have e0 : s₁.heap = h0 := by rw [← hh, Bd.state]; rfl
  have N0 := Fr.nil n0
  have pre0 : ∀ t, Steps p.tables e below (s₁.setTop (mkF m 0 #[.val (.int p0), .val (.int p1), .val (.int p2), .unset, .unset, .unset, .unset, .unset, .unset, .unset, .unset, .unset] [])) t → Steps p.tables e below (s₁.setTop (entryFrame m #[(.int p0), (.int p1), (.int p2)] maxLocals)) t := fun t k => castTop (ef_0_III m p0 p1 p2) k
  obtain ⟨T1, X1, e1, st1⟩ := getS2 X0 hx hZ hown (host := "") (Or.inl (hw _ (List.mem_of_getElem? (i := 0) rfl))) Via.refl e0 S_MIN (g := (mkF m 12 #[.val (.int p0), .val (.int p1), .val (.int p2), .unset, .unset, .unset, .unset, .unset, .unset, .unset, .unset, .unset] [])) rfl (hb hby at_12)
  obtain ⟨T2, X2, e2, st2⟩ := getS2 X1 hx hZ hown (host := "") (Or.inl (hw _ (List.mem_of_getElem? (i := 0) rfl))) Via.refl e1 S_MIN (g := (mkF m 24 #[.val (.int p0), .val (.int p1), .val (.int p2), .val (.ref m0), .val (.double (FP.i2d p0)), .second, .val (.double (FP.i2d p1)), .second, .unset, .unset, .unset, .unset] [])) rfl (hb hby at_24)
  obtain ⟨cq3, kq3, q3a, q3b, q3c⟩ := isOf hZ e2 E_m0
  obtain ⟨_, _, ⟨T3, L3, k3, n3⟩, -, X3, ⟨Lc3, hQ3, l3, y3, z3⟩, st3⟩ := X2.virtualBack hx (y := (⟨"com/example/hedge/hedge/Direction", "improves", "(DD)Z"⟩ : MethodName)) (z := (⟨"com/example/hedge/hedge/Direction", "improves", "(DD)Z"⟩ : MethodName)) hown (mvT hZ (hw _ (List.mem_of_getElem? (i := 3) rfl))) (mvT hZ (hw _ (List.mem_of_getElem? (i := 4) rfl))) (notFace_of_selects (args := #[]) (mvT hZ (hw _ (List.mem_of_getElem? (i := 6) rfl)))) (mvT hZ (hw _ (List.mem_of_getElem? (i := 6) rfl))) (mvT hZ (hw _ (List.mem_of_getElem? (i := 5) rfl))) (by decide) (backOf (W := 0) (rm1m2 l Z a0 hw [] m0 (FP.i2d p0) (FP.i2d p1) h0 n0 Z0 S_MIN hd9_31) hZ (hw _ (List.mem_of_getElem? (i := 7) rfl)) (hw _ (List.mem_of_getElem? (i := 1) rfl)) (by decide) (by decide)) q3a q3c (g := (mkF m 31 #[.val (.int p0), .val (.int p1), .val (.int p2), .val (.ref m0), .val (.double (FP.i2d p0)), .second, .val (.double (FP.i2d p1)), .second, .unset, .unset, .unset, .unset] [(.double (FP.i2d p1)), (.double (FP.i2d p0)), (.ref m0)])) rfl (by rw [hml]; rfl) (Steps.refl _) (argsL := [(.double (FP.i2d p0)), (.double (FP.i2d p1))]) (rest := []) (lenOf pd_0 rfl) rfl (by show 2 * 0 + _ ≤ _; exact Nat.le_of_eq rfl) (hb hby at_31) (fun _ _ => ⟨rfl, e2, (by decide : 0 + 0 ≤ _), (by decide : 0 + 0 ≤ _)⟩)
  dsimp only [Pt.U, Pt.locs, Pt.cells, Pt.slots] at X3 l3 y3 z3 st3 hQ3
  subst l3 y3 z3
  obtain ⟨rfl, N3q, eh3⟩ := hQ3
  have N3 := Fr.app N0 N3q
  have e3 : T3.heap = h0 := eh3
  obtain ⟨T4, X4, e4, st4⟩ := getS2 X3 hx hZ hown (host := "") (Or.inl (hw _ (List.mem_of_getElem? (i := 9) rfl))) Via.refl e3 S_MAX (g := (mkF m 36 #[.val (.int p0), .val (.int p1), .val (.int p2), .val (.ref m0), .val (.double (FP.i2d p0)), .second, .val (.double (FP.i2d p1)), .second, .val (.int (0 : Int32)), .unset, .unset, .unset] [])) rfl (hb hby at_36)
  obtain ⟨cq5, kq5, q5a, q5b, q5c⟩ := isOf hZ e4 E_m1
  obtain ⟨_, _, ⟨T5, L5, k5, n5⟩, -, X5, ⟨Lc5, hQ5, l5, y5, z5⟩, st5⟩ := X4.virtualBack hx (y := (⟨"com/example/hedge/hedge/Direction", "improves", "(DD)Z"⟩ : MethodName)) (z := (⟨"com/example/hedge/hedge/Direction", "improves", "(DD)Z"⟩ : MethodName)) hown (mvT hZ (hw _ (List.mem_of_getElem? (i := 3) rfl))) (mvT hZ (hw _ (List.mem_of_getElem? (i := 4) rfl))) (notFace_of_selects (args := #[]) (mvT hZ (hw _ (List.mem_of_getElem? (i := 6) rfl)))) (mvT hZ (hw _ (List.mem_of_getElem? (i := 6) rfl))) (mvT hZ (hw _ (List.mem_of_getElem? (i := 5) rfl))) (by decide) (backOf (W := 0) (rm1x2 l Z a0 hw [] m1 (FP.i2d p0) (FP.i2d p1) m0 h0 n0 Z0 S_MIN ne_m1_m0 hd23_43) hZ (hw _ (List.mem_of_getElem? (i := 7) rfl)) (hw _ (List.mem_of_getElem? (i := 1) rfl)) (by decide) (by decide)) q5a q5c (g := (mkF m 43 #[.val (.int p0), .val (.int p1), .val (.int p2), .val (.ref m0), .val (.double (FP.i2d p0)), .second, .val (.double (FP.i2d p1)), .second, .val (.int (0 : Int32)), .unset, .unset, .unset] [(.double (FP.i2d p1)), (.double (FP.i2d p0)), (.ref m1)])) rfl (by rw [hml]; rfl) (Steps.refl _) (argsL := [(.double (FP.i2d p0)), (.double (FP.i2d p1))]) (rest := []) (lenOf pd_0 rfl) rfl (by show 2 * 0 + _ ≤ _; exact Nat.le_of_eq rfl) (hb hby at_43) (fun _ _ => ⟨rfl, e4, (by decide : 0 + 0 ≤ _), (by decide : 0 + 0 ≤ _)⟩)
  dsimp only [Pt.U, Pt.locs, Pt.cells, Pt.slots] at X5 l5 y5 z5 st5 hQ5
  subst l5 y5 z5
  obtain ⟨rfl, N5q, eh5⟩ := hQ5
  have N5 := Fr.app N3 N5q
  have e5 : T5.heap = h0 := eh5
  obtain ⟨T6, X6, e6, st6⟩ := getS2 X5 hx hZ hown (host := "") (Or.inl (hw _ (List.mem_of_getElem? (i := 0) rfl))) Via.refl e5 S_MIN (g := (mkF m 48 #[.val (.int p0), .val (.int p1), .val (.int p2), .val (.ref m0), .val (.double (FP.i2d p0)), .second, .val (.double (FP.i2d p1)), .second, .val (.int (0 : Int32)), .val (.int (1 : Int32)), .unset, .unset] [])) rfl (hb hby at_48)
  obtain ⟨cq7, kq7, q7a, q7b, q7c⟩ := isOf hZ e6 E_m0
  obtain ⟨_, _, ⟨T7, L7, k7, n7⟩, -, X7, ⟨Lc7, hQ7, l7, y7, z7⟩, st7⟩ := X6.virtualBack hx (y := (⟨"com/example/hedge/hedge/Direction", "improves", "(DD)Z"⟩ : MethodName)) (z := (⟨"com/example/hedge/hedge/Direction", "improves", "(DD)Z"⟩ : MethodName)) hown (mvT hZ (hw _ (List.mem_of_getElem? (i := 3) rfl))) (mvT hZ (hw _ (List.mem_of_getElem? (i := 4) rfl))) (notFace_of_selects (args := #[]) (mvT hZ (hw _ (List.mem_of_getElem? (i := 6) rfl)))) (mvT hZ (hw _ (List.mem_of_getElem? (i := 6) rfl))) (mvT hZ (hw _ (List.mem_of_getElem? (i := 5) rfl))) (by decide) (backOf (W := 0) (rm1m0 l Z a0 hw [] m0 (FP.i2d p1) (FP.i2d p0) h0 n0 Z0 S_MIN hd9_55) hZ (hw _ (List.mem_of_getElem? (i := 7) rfl)) (hw _ (List.mem_of_getElem? (i := 1) rfl)) (by decide) (by decide)) q7a q7c (g := (mkF m 55 #[.val (.int p0), .val (.int p1), .val (.int p2), .val (.ref m0), .val (.double (FP.i2d p0)), .second, .val (.double (FP.i2d p1)), .second, .val (.int (0 : Int32)), .val (.int (1 : Int32)), .unset, .unset] [(.double (FP.i2d p0)), (.double (FP.i2d p1)), (.ref m0)])) rfl (by rw [hml]; rfl) (Steps.refl _) (argsL := [(.double (FP.i2d p1)), (.double (FP.i2d p0))]) (rest := []) (lenOf pd_0 rfl) rfl (by show 2 * 0 + _ ≤ _; exact Nat.le_of_eq rfl) (hb hby at_55) (fun _ _ => ⟨rfl, e6, (by decide : 0 + 0 ≤ _), (by decide : 0 + 0 ≤ _)⟩)
  dsimp only [Pt.U, Pt.locs, Pt.cells, Pt.slots] at X7 l7 y7 z7 st7 hQ7
  subst l7 y7 z7
  obtain ⟨rfl, N7q, eh7⟩ := hQ7
  have N7 := Fr.app N5 N7q
  have e7 : T7.heap = h0 := eh7
  obtain ⟨cq8, kq8, q8a, q8b, q8c⟩ := isOf hZ e7 E_m0
  obtain ⟨_, _, ⟨T8, L8, k8, n8⟩, -, X8, ⟨Lc8, hQ8, l8, y8, z8⟩, st8⟩ := X7.virtualBack hx (y := (⟨"com/example/hedge/hedge/Direction", "worst", "()D"⟩ : MethodName)) (z := (⟨"com/example/hedge/hedge/Direction", "worst", "()D"⟩ : MethodName)) hown (mvT hZ (hw _ (List.mem_of_getElem? (i := 11) rfl))) (mvT hZ (hw _ (List.mem_of_getElem? (i := 12) rfl))) (notFace_of_selects (args := #[]) (mvT hZ (hw _ (List.mem_of_getElem? (i := 14) rfl)))) (mvT hZ (hw _ (List.mem_of_getElem? (i := 14) rfl))) (mvT hZ (hw _ (List.mem_of_getElem? (i := 13) rfl))) (by decide) (backOf (W := 3) (rm2m l Z a0 hw [] m0 h0 n0 Z0 S_MIN) hZ (hw _ (List.mem_of_getElem? (i := 15) rfl)) (hw _ (List.mem_of_getElem? (i := 1) rfl)) (by decide) (by decide)) q8a q8c (g := (mkF m 64 #[.val (.int p0), .val (.int p1), .val (.int p2), .val (.ref m0), .val (.double (FP.i2d p0)), .second, .val (.double (FP.i2d p1)), .second, .val (.int (0 : Int32)), .val (.int (1 : Int32)), .val (.int (1 : Int32)), .unset] [(.ref m0), (.double (FP.i2d p0)), (.ref m0)])) rfl (by rw [hml]; rfl) (Steps.refl _) (argsL := []) (rest := [(.double (FP.i2d p0)), (.ref m0)]) (lenOf pd_1 rfl) rfl (by show 2 * 0 + _ ≤ _; exact Nat.le_of_eq rfl) (hb hby at_64) (fun _ _ => ⟨rfl, e7, (by decide : 0 + 0 ≤ _), (by decide : 0 + 0 ≤ _)⟩)
  dsimp only [Pt.U, Pt.locs, Pt.cells, Pt.slots] at X8 l8 y8 z8 st8 hQ8
  subst l8 y8 z8
  obtain ⟨rfl, N8q, eh8⟩ := hQ8
  have N8 := Fr.app N7 N8q
  have e8 : T8.heap = h0 := eh8
  obtain ⟨cq9, kq9, q9a, q9b, q9c⟩ := isOf hZ e8 E_m0
  obtain ⟨_, _, ⟨T9, L9, k9, n9⟩, -, X9, ⟨Lc9, hQ9, l9, y9, z9⟩, st9⟩ := X8.virtualBack hx (y := (⟨"com/example/hedge/hedge/Direction", "improves", "(DD)Z"⟩ : MethodName)) (z := (⟨"com/example/hedge/hedge/Direction", "improves", "(DD)Z"⟩ : MethodName)) hown (mvT hZ (hw _ (List.mem_of_getElem? (i := 3) rfl))) (mvT hZ (hw _ (List.mem_of_getElem? (i := 4) rfl))) (notFace_of_selects (args := #[]) (mvT hZ (hw _ (List.mem_of_getElem? (i := 6) rfl)))) (mvT hZ (hw _ (List.mem_of_getElem? (i := 6) rfl))) (mvT hZ (hw _ (List.mem_of_getElem? (i := 5) rfl))) (by decide) (backOf (W := 0) (rm1m0 l Z a0 hw [] m0 (FP.i2d p0) (9218868437227405312 : UInt64) h0 n0 Z0 S_MIN hd9_67) hZ (hw _ (List.mem_of_getElem? (i := 7) rfl)) (hw _ (List.mem_of_getElem? (i := 1) rfl)) (by decide) (by decide)) q9a q9c (g := (mkF m 67 #[.val (.int p0), .val (.int p1), .val (.int p2), .val (.ref m0), .val (.double (FP.i2d p0)), .second, .val (.double (FP.i2d p1)), .second, .val (.int (0 : Int32)), .val (.int (1 : Int32)), .val (.int (1 : Int32)), .unset] [(.double (9218868437227405312 : UInt64)), (.double (FP.i2d p0)), (.ref m0)])) rfl (by rw [hml]; rfl) (Steps.refl _) (argsL := [(.double (FP.i2d p0)), (.double (9218868437227405312 : UInt64))]) (rest := []) (lenOf pd_0 rfl) rfl (by show 2 * 0 + _ ≤ _; exact Nat.le_of_eq rfl) (hb hby at_67) (fun _ _ => ⟨rfl, e8, (by decide : 0 + 0 ≤ _), (by decide : 0 + 0 ≤ _)⟩)
  dsimp only [Pt.U, Pt.locs, Pt.cells, Pt.slots] at X9 l9 y9 z9 st9 hQ9
  subst l9 y9 z9
  obtain ⟨rfl, N9q, eh9⟩ := hQ9
  have N9 := Fr.app N8 N9q
  have e9 : T9.heap = h0 := eh9
  obtain ⟨fs, hr, hrun, hended, hW, hsame⟩ := X9.leave (v := some (.int (1 : Int32))) (fun h => by rw [Bd.returns] at h; cases h)
  refine ⟨_, _, pre0 _ ?_, hrun, hended, _, _, rfl, ?_, ⟨_, rfl⟩, hW, hsame.mono (by decide) (by decide)⟩
  · show Steps p.tables e below (s₁.setTop (mkF m 0 #[.val (.int p0), .val (.int p1), .val (.int p2), .unset, .unset, .unset, .unset, .unset, .unset, .unset, .unset, .unset] [])) _
    refine XS.iloadN X0.here hx rfl (hb hby at_0) rfl ?_
    show Steps p.tables e below (s₁.setTop (mkF m 1 #[.val (.int p0), .val (.int p1), .val (.int p2), .unset, .unset, .unset, .unset, .unset, .unset, .unset, .unset, .unset] [(.int p2)])) _
    refine XS.iconst X0.here hx rfl (hb hby at_1) ?_
    show Steps p.tables e below (s₁.setTop (mkF m 2 #[.val (.int p0), .val (.int p1), .val (.int p2), .unset, .unset, .unset, .unset, .unset, .unset, .unset, .unset, .unset] [(.int (1 : Int32)), (.int p2)])) _
    refine XS.iand X0.here hx rfl (hb hby at_2) rfl ?_
    show Steps p.tables e below (s₁.setTop (mkF m 3 #[.val (.int p0), .val (.int p1), .val (.int p2), .unset, .unset, .unset, .unset, .unset, .unset, .unset, .unset, .unset] [(.int (p2 &&& (1 : Int32)))])) _
    refine XS.ifYes X0.here hx rfl (pc0 := 3) (pc' := 12) rfl (hb hby at_3) rfl ((if0 _ _).trans (teq hc3).1) (by decide) (by decide) ?_
    show Steps p.tables e below (s₁.setTop (mkF m 12 #[.val (.int p0), .val (.int p1), .val (.int p2), .unset, .unset, .unset, .unset, .unset, .unset, .unset, .unset, .unset] [])) _
    refine st1 _ ?_
    show Steps p.tables e below (T1.setTop (mkF m 15 #[.val (.int p0), .val (.int p1), .val (.int p2), .unset, .unset, .unset, .unset, .unset, .unset, .unset, .unset, .unset] [(.ref m0)])) _
    refine XS.astoreN X1.here hx rfl (hb hby at_15) rfl rfl (l' := #[.val (.int p0), .val (.int p1), .val (.int p2), .val (.ref m0), .unset, .unset, .unset, .unset, .unset, .unset, .unset, .unset]) rfl ?_
    show Steps p.tables e below (T1.setTop (mkF m 16 #[.val (.int p0), .val (.int p1), .val (.int p2), .val (.ref m0), .unset, .unset, .unset, .unset, .unset, .unset, .unset, .unset] [])) _
    refine XS.iloadN X1.here hx rfl (hb hby at_16) rfl ?_
    show Steps p.tables e below (T1.setTop (mkF m 17 #[.val (.int p0), .val (.int p1), .val (.int p2), .val (.ref m0), .unset, .unset, .unset, .unset, .unset, .unset, .unset, .unset] [(.int p0)])) _
    refine XS.i2dS X1.here hx rfl (hb hby at_17) rfl (v := (FP.i2d p0)) rfl ?_
    show Steps p.tables e below (T1.setTop (mkF m 18 #[.val (.int p0), .val (.int p1), .val (.int p2), .val (.ref m0), .unset, .unset, .unset, .unset, .unset, .unset, .unset, .unset] [(.double (FP.i2d p0))])) _
    refine XS.dstore X1.here hx rfl (hb hby at_18) rfl (l' := #[.val (.int p0), .val (.int p1), .val (.int p2), .val (.ref m0), .val (.double (FP.i2d p0)), .second, .unset, .unset, .unset, .unset, .unset, .unset]) rfl ?_
    show Steps p.tables e below (T1.setTop (mkF m 20 #[.val (.int p0), .val (.int p1), .val (.int p2), .val (.ref m0), .val (.double (FP.i2d p0)), .second, .unset, .unset, .unset, .unset, .unset, .unset] [])) _
    refine XS.iloadN X1.here hx rfl (hb hby at_20) rfl ?_
    show Steps p.tables e below (T1.setTop (mkF m 21 #[.val (.int p0), .val (.int p1), .val (.int p2), .val (.ref m0), .val (.double (FP.i2d p0)), .second, .unset, .unset, .unset, .unset, .unset, .unset] [(.int p1)])) _
    refine XS.i2dS X1.here hx rfl (hb hby at_21) rfl (v := (FP.i2d p1)) rfl ?_
    show Steps p.tables e below (T1.setTop (mkF m 22 #[.val (.int p0), .val (.int p1), .val (.int p2), .val (.ref m0), .val (.double (FP.i2d p0)), .second, .unset, .unset, .unset, .unset, .unset, .unset] [(.double (FP.i2d p1))])) _
    refine XS.dstore X1.here hx rfl (hb hby at_22) rfl (l' := #[.val (.int p0), .val (.int p1), .val (.int p2), .val (.ref m0), .val (.double (FP.i2d p0)), .second, .val (.double (FP.i2d p1)), .second, .unset, .unset, .unset, .unset]) rfl ?_
    show Steps p.tables e below (T1.setTop (mkF m 24 #[.val (.int p0), .val (.int p1), .val (.int p2), .val (.ref m0), .val (.double (FP.i2d p0)), .second, .val (.double (FP.i2d p1)), .second, .unset, .unset, .unset, .unset] [])) _
    refine st2 _ ?_
    show Steps p.tables e below (T2.setTop (mkF m 27 #[.val (.int p0), .val (.int p1), .val (.int p2), .val (.ref m0), .val (.double (FP.i2d p0)), .second, .val (.double (FP.i2d p1)), .second, .unset, .unset, .unset, .unset] [(.ref m0)])) _
    refine XS.dload X2.here hx rfl (hb hby at_27) rfl ?_
    show Steps p.tables e below (T2.setTop (mkF m 29 #[.val (.int p0), .val (.int p1), .val (.int p2), .val (.ref m0), .val (.double (FP.i2d p0)), .second, .val (.double (FP.i2d p1)), .second, .unset, .unset, .unset, .unset] [(.double (FP.i2d p0)), (.ref m0)])) _
    refine XS.dload X2.here hx rfl (hb hby at_29) rfl ?_
    show Steps p.tables e below (T2.setTop (mkF m 31 #[.val (.int p0), .val (.int p1), .val (.int p2), .val (.ref m0), .val (.double (FP.i2d p0)), .second, .val (.double (FP.i2d p1)), .second, .unset, .unset, .unset, .unset] [(.double (FP.i2d p1)), (.double (FP.i2d p0)), (.ref m0)])) _
    refine st3.trans ?_
    show Steps p.tables e below (T3.setTop (mkF m 34 #[.val (.int p0), .val (.int p1), .val (.int p2), .val (.ref m0), .val (.double (FP.i2d p0)), .second, .val (.double (FP.i2d p1)), .second, .unset, .unset, .unset, .unset] [(.int (0 : Int32))])) _
    refine XS.istore X3.here hx rfl (hb hby at_34) rfl (l' := #[.val (.int p0), .val (.int p1), .val (.int p2), .val (.ref m0), .val (.double (FP.i2d p0)), .second, .val (.double (FP.i2d p1)), .second, .val (.int (0 : Int32)), .unset, .unset, .unset]) rfl ?_
    show Steps p.tables e below (T3.setTop (mkF m 36 #[.val (.int p0), .val (.int p1), .val (.int p2), .val (.ref m0), .val (.double (FP.i2d p0)), .second, .val (.double (FP.i2d p1)), .second, .val (.int (0 : Int32)), .unset, .unset, .unset] [])) _
    refine st4 _ ?_
    show Steps p.tables e below (T4.setTop (mkF m 39 #[.val (.int p0), .val (.int p1), .val (.int p2), .val (.ref m0), .val (.double (FP.i2d p0)), .second, .val (.double (FP.i2d p1)), .second, .val (.int (0 : Int32)), .unset, .unset, .unset] [(.ref m1)])) _
    refine XS.dload X4.here hx rfl (hb hby at_39) rfl ?_
    show Steps p.tables e below (T4.setTop (mkF m 41 #[.val (.int p0), .val (.int p1), .val (.int p2), .val (.ref m0), .val (.double (FP.i2d p0)), .second, .val (.double (FP.i2d p1)), .second, .val (.int (0 : Int32)), .unset, .unset, .unset] [(.double (FP.i2d p0)), (.ref m1)])) _
    refine XS.dload X4.here hx rfl (hb hby at_41) rfl ?_
    show Steps p.tables e below (T4.setTop (mkF m 43 #[.val (.int p0), .val (.int p1), .val (.int p2), .val (.ref m0), .val (.double (FP.i2d p0)), .second, .val (.double (FP.i2d p1)), .second, .val (.int (0 : Int32)), .unset, .unset, .unset] [(.double (FP.i2d p1)), (.double (FP.i2d p0)), (.ref m1)])) _
    refine st5.trans ?_
    show Steps p.tables e below (T5.setTop (mkF m 46 #[.val (.int p0), .val (.int p1), .val (.int p2), .val (.ref m0), .val (.double (FP.i2d p0)), .second, .val (.double (FP.i2d p1)), .second, .val (.int (0 : Int32)), .unset, .unset, .unset] [(.int (1 : Int32))])) _
    refine XS.istore X5.here hx rfl (hb hby at_46) rfl (l' := #[.val (.int p0), .val (.int p1), .val (.int p2), .val (.ref m0), .val (.double (FP.i2d p0)), .second, .val (.double (FP.i2d p1)), .second, .val (.int (0 : Int32)), .val (.int (1 : Int32)), .unset, .unset]) rfl ?_
    show Steps p.tables e below (T5.setTop (mkF m 48 #[.val (.int p0), .val (.int p1), .val (.int p2), .val (.ref m0), .val (.double (FP.i2d p0)), .second, .val (.double (FP.i2d p1)), .second, .val (.int (0 : Int32)), .val (.int (1 : Int32)), .unset, .unset] [])) _
    refine st6 _ ?_
    show Steps p.tables e below (T6.setTop (mkF m 51 #[.val (.int p0), .val (.int p1), .val (.int p2), .val (.ref m0), .val (.double (FP.i2d p0)), .second, .val (.double (FP.i2d p1)), .second, .val (.int (0 : Int32)), .val (.int (1 : Int32)), .unset, .unset] [(.ref m0)])) _
    refine XS.dload X6.here hx rfl (hb hby at_51) rfl ?_
    show Steps p.tables e below (T6.setTop (mkF m 53 #[.val (.int p0), .val (.int p1), .val (.int p2), .val (.ref m0), .val (.double (FP.i2d p0)), .second, .val (.double (FP.i2d p1)), .second, .val (.int (0 : Int32)), .val (.int (1 : Int32)), .unset, .unset] [(.double (FP.i2d p1)), (.ref m0)])) _
    refine XS.dload X6.here hx rfl (hb hby at_53) rfl ?_
    show Steps p.tables e below (T6.setTop (mkF m 55 #[.val (.int p0), .val (.int p1), .val (.int p2), .val (.ref m0), .val (.double (FP.i2d p0)), .second, .val (.double (FP.i2d p1)), .second, .val (.int (0 : Int32)), .val (.int (1 : Int32)), .unset, .unset] [(.double (FP.i2d p0)), (.double (FP.i2d p1)), (.ref m0)])) _
    refine st7.trans ?_
    show Steps p.tables e below (T7.setTop (mkF m 58 #[.val (.int p0), .val (.int p1), .val (.int p2), .val (.ref m0), .val (.double (FP.i2d p0)), .second, .val (.double (FP.i2d p1)), .second, .val (.int (0 : Int32)), .val (.int (1 : Int32)), .unset, .unset] [(.int (1 : Int32))])) _
    refine XS.istore X7.here hx rfl (hb hby at_58) rfl (l' := #[.val (.int p0), .val (.int p1), .val (.int p2), .val (.ref m0), .val (.double (FP.i2d p0)), .second, .val (.double (FP.i2d p1)), .second, .val (.int (0 : Int32)), .val (.int (1 : Int32)), .val (.int (1 : Int32)), .unset]) rfl ?_
    show Steps p.tables e below (T7.setTop (mkF m 60 #[.val (.int p0), .val (.int p1), .val (.int p2), .val (.ref m0), .val (.double (FP.i2d p0)), .second, .val (.double (FP.i2d p1)), .second, .val (.int (0 : Int32)), .val (.int (1 : Int32)), .val (.int (1 : Int32)), .unset] [])) _
    refine XS.aloadN X7.here hx rfl (hb hby at_60) rfl rfl ?_
    show Steps p.tables e below (T7.setTop (mkF m 61 #[.val (.int p0), .val (.int p1), .val (.int p2), .val (.ref m0), .val (.double (FP.i2d p0)), .second, .val (.double (FP.i2d p1)), .second, .val (.int (0 : Int32)), .val (.int (1 : Int32)), .val (.int (1 : Int32)), .unset] [(.ref m0)])) _
    refine XS.dload X7.here hx rfl (hb hby at_61) rfl ?_
    show Steps p.tables e below (T7.setTop (mkF m 63 #[.val (.int p0), .val (.int p1), .val (.int p2), .val (.ref m0), .val (.double (FP.i2d p0)), .second, .val (.double (FP.i2d p1)), .second, .val (.int (0 : Int32)), .val (.int (1 : Int32)), .val (.int (1 : Int32)), .unset] [(.double (FP.i2d p0)), (.ref m0)])) _
    refine XS.aloadN X7.here hx rfl (hb hby at_63) rfl rfl ?_
    show Steps p.tables e below (T7.setTop (mkF m 64 #[.val (.int p0), .val (.int p1), .val (.int p2), .val (.ref m0), .val (.double (FP.i2d p0)), .second, .val (.double (FP.i2d p1)), .second, .val (.int (0 : Int32)), .val (.int (1 : Int32)), .val (.int (1 : Int32)), .unset] [(.ref m0), (.double (FP.i2d p0)), (.ref m0)])) _
    refine st8.trans ?_
    show Steps p.tables e below (T8.setTop (mkF m 67 #[.val (.int p0), .val (.int p1), .val (.int p2), .val (.ref m0), .val (.double (FP.i2d p0)), .second, .val (.double (FP.i2d p1)), .second, .val (.int (0 : Int32)), .val (.int (1 : Int32)), .val (.int (1 : Int32)), .unset] [(.double (9218868437227405312 : UInt64)), (.double (FP.i2d p0)), (.ref m0)])) _
    refine st9.trans ?_
    show Steps p.tables e below (T9.setTop (mkF m 70 #[.val (.int p0), .val (.int p1), .val (.int p2), .val (.ref m0), .val (.double (FP.i2d p0)), .second, .val (.double (FP.i2d p1)), .second, .val (.int (0 : Int32)), .val (.int (1 : Int32)), .val (.int (1 : Int32)), .unset] [(.int (1 : Int32))])) _
    refine XS.istore X9.here hx rfl (hb hby at_70) rfl (l' := #[.val (.int p0), .val (.int p1), .val (.int p2), .val (.ref m0), .val (.double (FP.i2d p0)), .second, .val (.double (FP.i2d p1)), .second, .val (.int (0 : Int32)), .val (.int (1 : Int32)), .val (.int (1 : Int32)), .val (.int (1 : Int32))]) rfl ?_
    show Steps p.tables e below (T9.setTop (mkF m 72 #[.val (.int p0), .val (.int p1), .val (.int p2), .val (.ref m0), .val (.double (FP.i2d p0)), .second, .val (.double (FP.i2d p1)), .second, .val (.int (0 : Int32)), .val (.int (1 : Int32)), .val (.int (1 : Int32)), .val (.int (1 : Int32))] [])) _
    refine XS.iload X9.here hx rfl (hb hby at_72) rfl ?_
    show Steps p.tables e below (T9.setTop (mkF m 74 #[.val (.int p0), .val (.int p1), .val (.int p2), .val (.ref m0), .val (.double (FP.i2d p0)), .second, .val (.double (FP.i2d p1)), .second, .val (.int (0 : Int32)), .val (.int (1 : Int32)), .val (.int (1 : Int32)), .val (.int (1 : Int32))] [(.int (0 : Int32))])) _
    refine XS.iloadN X9.here hx rfl (hb hby at_74) rfl ?_
    show Steps p.tables e below (T9.setTop (mkF m 75 #[.val (.int p0), .val (.int p1), .val (.int p2), .val (.ref m0), .val (.double (FP.i2d p0)), .second, .val (.double (FP.i2d p1)), .second, .val (.int (0 : Int32)), .val (.int (1 : Int32)), .val (.int (1 : Int32)), .val (.int (1 : Int32))] [(.int p0), (.int (0 : Int32))])) _
    refine XS.iloadN X9.here hx rfl (hb hby at_75) rfl ?_
    show Steps p.tables e below (T9.setTop (mkF m 76 #[.val (.int p0), .val (.int p1), .val (.int p2), .val (.ref m0), .val (.double (FP.i2d p0)), .second, .val (.double (FP.i2d p1)), .second, .val (.int (0 : Int32)), .val (.int (1 : Int32)), .val (.int (1 : Int32)), .val (.int (1 : Int32))] [(.int p1), (.int p0), (.int (0 : Int32))])) _
    refine XS.icmpYes X9.here hx rfl (pc0 := 76) (pc' := 83) rfl (hb hby at_76) rfl (flt hc76).2.1 (by decide) (by decide) ?_
    show Steps p.tables e below (T9.setTop (mkF m 83 #[.val (.int p0), .val (.int p1), .val (.int p2), .val (.ref m0), .val (.double (FP.i2d p0)), .second, .val (.double (FP.i2d p1)), .second, .val (.int (0 : Int32)), .val (.int (1 : Int32)), .val (.int (1 : Int32)), .val (.int (1 : Int32))] [(.int (0 : Int32))])) _
    refine XS.iconst X9.here hx rfl (hb hby at_83) ?_
    show Steps p.tables e below (T9.setTop (mkF m 84 #[.val (.int p0), .val (.int p1), .val (.int p2), .val (.ref m0), .val (.double (FP.i2d p0)), .second, .val (.double (FP.i2d p1)), .second, .val (.int (0 : Int32)), .val (.int (1 : Int32)), .val (.int (1 : Int32)), .val (.int (1 : Int32))] [(.int (0 : Int32)), (.int (0 : Int32))])) _
    refine XS.icmpNo X9.here hx rfl (hb hby at_84) rfl (teq (by decide : (0 : Int32) = (0 : Int32))).2 ?_
    show Steps p.tables e below (T9.setTop (mkF m 87 #[.val (.int p0), .val (.int p1), .val (.int p2), .val (.ref m0), .val (.double (FP.i2d p0)), .second, .val (.double (FP.i2d p1)), .second, .val (.int (0 : Int32)), .val (.int (1 : Int32)), .val (.int (1 : Int32)), .val (.int (1 : Int32))] [])) _
    refine XS.iload X9.here hx rfl (hb hby at_87) rfl ?_
    show Steps p.tables e below (T9.setTop (mkF m 89 #[.val (.int p0), .val (.int p1), .val (.int p2), .val (.ref m0), .val (.double (FP.i2d p0)), .second, .val (.double (FP.i2d p1)), .second, .val (.int (0 : Int32)), .val (.int (1 : Int32)), .val (.int (1 : Int32)), .val (.int (1 : Int32))] [(.int (1 : Int32))])) _
    refine XS.iloadN X9.here hx rfl (hb hby at_89) rfl ?_
    show Steps p.tables e below (T9.setTop (mkF m 90 #[.val (.int p0), .val (.int p1), .val (.int p2), .val (.ref m0), .val (.double (FP.i2d p0)), .second, .val (.double (FP.i2d p1)), .second, .val (.int (0 : Int32)), .val (.int (1 : Int32)), .val (.int (1 : Int32)), .val (.int (1 : Int32))] [(.int p0), (.int (1 : Int32))])) _
    refine XS.iloadN X9.here hx rfl (hb hby at_90) rfl ?_
    show Steps p.tables e below (T9.setTop (mkF m 91 #[.val (.int p0), .val (.int p1), .val (.int p2), .val (.ref m0), .val (.double (FP.i2d p0)), .second, .val (.double (FP.i2d p1)), .second, .val (.int (0 : Int32)), .val (.int (1 : Int32)), .val (.int (1 : Int32)), .val (.int (1 : Int32))] [(.int p1), (.int p0), (.int (1 : Int32))])) _
    refine XS.icmpNo X9.here hx rfl (hb hby at_91) rfl (tlt hc91).2.2.2 ?_
    show Steps p.tables e below (T9.setTop (mkF m 94 #[.val (.int p0), .val (.int p1), .val (.int p2), .val (.ref m0), .val (.double (FP.i2d p0)), .second, .val (.double (FP.i2d p1)), .second, .val (.int (0 : Int32)), .val (.int (1 : Int32)), .val (.int (1 : Int32)), .val (.int (1 : Int32))] [(.int (1 : Int32))])) _
    refine XS.iconst X9.here hx rfl (hb hby at_94) ?_
    show Steps p.tables e below (T9.setTop (mkF m 95 #[.val (.int p0), .val (.int p1), .val (.int p2), .val (.ref m0), .val (.double (FP.i2d p0)), .second, .val (.double (FP.i2d p1)), .second, .val (.int (0 : Int32)), .val (.int (1 : Int32)), .val (.int (1 : Int32)), .val (.int (1 : Int32))] [(.int (1 : Int32)), (.int (1 : Int32))])) _
    refine XS.goto X9.here hx rfl (pc0 := 95) (pc' := 99) rfl (hb hby at_95) (by decide) (by decide) ?_
    show Steps p.tables e below (T9.setTop (mkF m 99 #[.val (.int p0), .val (.int p1), .val (.int p2), .val (.ref m0), .val (.double (FP.i2d p0)), .second, .val (.double (FP.i2d p1)), .second, .val (.int (0 : Int32)), .val (.int (1 : Int32)), .val (.int (1 : Int32)), .val (.int (1 : Int32))] [(.int (1 : Int32)), (.int (1 : Int32))])) _
    refine XS.icmpNo X9.here hx rfl (hb hby at_99) rfl (teq (by decide : (1 : Int32) = (1 : Int32))).2 ?_
    show Steps p.tables e below (T9.setTop (mkF m 102 #[.val (.int p0), .val (.int p1), .val (.int p2), .val (.ref m0), .val (.double (FP.i2d p0)), .second, .val (.double (FP.i2d p1)), .second, .val (.int (0 : Int32)), .val (.int (1 : Int32)), .val (.int (1 : Int32)), .val (.int (1 : Int32))] [])) _
    refine XS.iload X9.here hx rfl (hb hby at_102) rfl ?_
    show Steps p.tables e below (T9.setTop (mkF m 104 #[.val (.int p0), .val (.int p1), .val (.int p2), .val (.ref m0), .val (.double (FP.i2d p0)), .second, .val (.double (FP.i2d p1)), .second, .val (.int (0 : Int32)), .val (.int (1 : Int32)), .val (.int (1 : Int32)), .val (.int (1 : Int32))] [(.int (1 : Int32))])) _
    refine XS.iload X9.here hx rfl (hb hby at_104) rfl ?_
    show Steps p.tables e below (T9.setTop (mkF m 106 #[.val (.int p0), .val (.int p1), .val (.int p2), .val (.ref m0), .val (.double (FP.i2d p0)), .second, .val (.double (FP.i2d p1)), .second, .val (.int (0 : Int32)), .val (.int (1 : Int32)), .val (.int (1 : Int32)), .val (.int (1 : Int32))] [(.int (1 : Int32)), (.int (1 : Int32))])) _
    refine XS.icmpNo X9.here hx rfl (hb hby at_106) rfl (teq (by decide : (1 : Int32) = (1 : Int32))).2 ?_
    show Steps p.tables e below (T9.setTop (mkF m 109 #[.val (.int p0), .val (.int p1), .val (.int p2), .val (.ref m0), .val (.double (FP.i2d p0)), .second, .val (.double (FP.i2d p1)), .second, .val (.int (0 : Int32)), .val (.int (1 : Int32)), .val (.int (1 : Int32)), .val (.int (1 : Int32))] [])) _
    refine XS.iload X9.here hx rfl (hb hby at_109) rfl ?_
    show Steps p.tables e below (T9.setTop (mkF m 111 #[.val (.int p0), .val (.int p1), .val (.int p2), .val (.ref m0), .val (.double (FP.i2d p0)), .second, .val (.double (FP.i2d p1)), .second, .val (.int (0 : Int32)), .val (.int (1 : Int32)), .val (.int (1 : Int32)), .val (.int (1 : Int32))] [(.int (1 : Int32))])) _
    refine XS.ifNo X9.here hx rfl (hb hby at_111) rfl ((if0 _ _).trans (feq (by decide : ¬ ((1 : Int32) = (0 : Int32)))).1) ?_
    show Steps p.tables e below (T9.setTop (mkF m 114 #[.val (.int p0), .val (.int p1), .val (.int p2), .val (.ref m0), .val (.double (FP.i2d p0)), .second, .val (.double (FP.i2d p1)), .second, .val (.int (0 : Int32)), .val (.int (1 : Int32)), .val (.int (1 : Int32)), .val (.int (1 : Int32))] [])) _
    refine XS.iconst X9.here hx rfl (hb hby at_114) ?_
    show Steps p.tables e below (T9.setTop (mkF m 115 #[.val (.int p0), .val (.int p1), .val (.int p2), .val (.ref m0), .val (.double (FP.i2d p0)), .second, .val (.double (FP.i2d p1)), .second, .val (.int (0 : Int32)), .val (.int (1 : Int32)), .val (.int (1 : Int32)), .val (.int (1 : Int32))] [(.int (1 : Int32))])) _
    refine XS.goto X9.here hx rfl (pc0 := 115) (pc' := 119) rfl (hb hby at_115) (by decide) (by decide) ?_
    show Steps p.tables e below (T9.setTop (mkF m 119 #[.val (.int p0), .val (.int p1), .val (.int p2), .val (.ref m0), .val (.double (FP.i2d p0)), .second, .val (.double (FP.i2d p1)), .second, .val (.int (0 : Int32)), .val (.int (1 : Int32)), .val (.int (1 : Int32)), .val (.int (1 : Int32))] [(.int (1 : Int32))])) _
    exact retN X9 hx (t := .boolean) Bd.returns (by simp) (hb hby at_119) hr
  · show Q0 n0 _ T9.heap _
    rw [e9]
    exact ⟨rfl, N9⟩
set_option maxRecDepth 65536 in
set_option maxHeartbeats 40000000 in
theorem rm0_2_1 (l : Launch) (Z : State) (a0 : Array Value) (hw : ∀ d ∈ tables_1, d.before a0 Z = true) (ws : List Jvm.Cond) (p0 : Int32) (p1 : Int32) (p2 : Int32) (m0 : Addr) (m1 : Addr) (h0 : Heap) (n0 : Nat) (Z0 : n0 ≤ h0.size) (S_MIN : Sta Z h0 "com/example/hedge/hedge/Direction" "MIN" "Lcom/example/hedge/hedge/Direction;" (.ref m0)) (S_MAX : Sta Z h0 "com/example/hedge/hedge/Direction" "MAX" "Lcom/example/hedge/hedge/Direction;" (.ref m1)) (E_m0 : Exa Z h0 m0 "com/example/hedge/hedge/Direction") (E_m1 : Exa Z h0 m1 "com/example/hedge/hedge/Direction") (ne_m1_m0 : m1 ≠ m0) (hc3 : ¬ ((p2 &&& (1 : Int32)) = (0 : Int32))) (hd9_31 : (cmpValue (FP.dcmp (FP.i2d p0) (FP.i2d p1)) .g) = (1 : Int32)) (hd23_43 : (cmpValue (FP.dcmp (FP.i2d p0) (FP.i2d p1)) .l) = (1 : Int32)) (hd9_55 : (cmpValue (FP.dcmp (FP.i2d p1) (FP.i2d p0)) .g) = (-1 : Int32)) (hd23_67 : (cmpValue (FP.dcmp (FP.i2d p0) (18442240474082181120 : UInt64)) .l) = (1 : Int32)) (hc76 : ¬ (p0 < p1)) (hc91 : p1 < p0) :
    MetFree l x (head1 (Jvm.Cond.code x code maxLocals ret :: ws) room_1) (fun a U => a = #[(.int p0), (.int p1), (.int p2)] ∧ Z.Warmed39 U.vm ∧ U.heap = h0) (fun _ _ _ _ _ => True) (fun _ U o U' => ∃ v L, o = .returned v ∧ Q0 n0 v U'.heap L ∧ FrameEnd U o U' L room_1.cells room_1.slots) := by
  refine MetFree.of_bodySF (plainFor_of_name pn_com_example_hedge_hedge_DirectionImprovesPinLaw) hisR ?_
  intro p e s m args below meth c s₁ Bd hml0 hP hK
  obtain ⟨rfl, hZ, hh⟩ := hP
  have hx := Bd.exec
  have hby := Bd.bytes
  have hml : c.maxLocals = 12 := hml0
  have hown : s.vm.findClass "com/example/hedge/hedge/DirectionImprovesPinLaw" = some m.cls := findClass_of_methodNamed Bd.named
  have hnm := (name_of_methodNamed Bd.named Bd.method).1
  have X0 : Stand p l e room_1 s m #[(.int p0), (.int p1), (.int p2)] below meth c s₁ [] 0 0 := Stand.of_body Bd
  have e0 : s₁.heap = h0 := by rw [← hh, Bd.state]; rfl
  have N0 := Fr.nil n0
  have pre0 : ∀ t, Steps p.tables e below (s₁.setTop (mkF m 0 #[.val (.int p0), .val (.int p1), .val (.int p2), .unset, .unset, .unset, .unset, .unset, .unset, .unset, .unset, .unset] [])) t → Steps p.tables e below (s₁.setTop (entryFrame m #[(.int p0), (.int p1), (.int p2)] maxLocals)) t := fun t k => castTop (ef_0_III m p0 p1 p2) k
  obtain ⟨T1, X1, e1, st1⟩ := getS2 X0 hx hZ hown (host := "") (Or.inl (hw _ (List.mem_of_getElem? (i := 9) rfl))) Via.refl e0 S_MAX (g := (mkF m 6 #[.val (.int p0), .val (.int p1), .val (.int p2), .unset, .unset, .unset, .unset, .unset, .unset, .unset, .unset, .unset] [])) rfl (hb hby at_6)
  obtain ⟨T2, X2, e2, st2⟩ := getS2 X1 hx hZ hown (host := "") (Or.inl (hw _ (List.mem_of_getElem? (i := 0) rfl))) Via.refl e1 S_MIN (g := (mkF m 24 #[.val (.int p0), .val (.int p1), .val (.int p2), .val (.ref m1), .val (.double (FP.i2d p0)), .second, .val (.double (FP.i2d p1)), .second, .unset, .unset, .unset, .unset] [])) rfl (hb hby at_24)
  obtain ⟨cq3, kq3, q3a, q3b, q3c⟩ := isOf hZ e2 E_m0
  obtain ⟨_, _, ⟨T3, L3, k3, n3⟩, -, X3, ⟨Lc3, hQ3, l3, y3, z3⟩, st3⟩ := X2.virtualBack hx (y := (⟨"com/example/hedge/hedge/Direction", "improves", "(DD)Z"⟩ : MethodName)) (z := (⟨"com/example/hedge/hedge/Direction", "improves", "(DD)Z"⟩ : MethodName)) hown (mvT hZ (hw _ (List.mem_of_getElem? (i := 3) rfl))) (mvT hZ (hw _ (List.mem_of_getElem? (i := 4) rfl))) (notFace_of_selects (args := #[]) (mvT hZ (hw _ (List.mem_of_getElem? (i := 6) rfl)))) (mvT hZ (hw _ (List.mem_of_getElem? (i := 6) rfl))) (mvT hZ (hw _ (List.mem_of_getElem? (i := 5) rfl))) (by decide) (backOf (W := 0) (rm1m2 l Z a0 hw [] m0 (FP.i2d p0) (FP.i2d p1) h0 n0 Z0 S_MIN hd9_31) hZ (hw _ (List.mem_of_getElem? (i := 7) rfl)) (hw _ (List.mem_of_getElem? (i := 1) rfl)) (by decide) (by decide)) q3a q3c (g := (mkF m 31 #[.val (.int p0), .val (.int p1), .val (.int p2), .val (.ref m1), .val (.double (FP.i2d p0)), .second, .val (.double (FP.i2d p1)), .second, .unset, .unset, .unset, .unset] [(.double (FP.i2d p1)), (.double (FP.i2d p0)), (.ref m0)])) rfl (by rw [hml]; rfl) (Steps.refl _) (argsL := [(.double (FP.i2d p0)), (.double (FP.i2d p1))]) (rest := []) (lenOf pd_0 rfl) rfl (by show 2 * 0 + _ ≤ _; exact Nat.le_of_eq rfl) (hb hby at_31) (fun _ _ => ⟨rfl, e2, (by decide : 0 + 0 ≤ _), (by decide : 0 + 0 ≤ _)⟩)
  dsimp only [Pt.U, Pt.locs, Pt.cells, Pt.slots] at X3 l3 y3 z3 st3 hQ3
  subst l3 y3 z3
  obtain ⟨rfl, N3q, eh3⟩ := hQ3
  have N3 := Fr.app N0 N3q
  have e3 : T3.heap = h0 := eh3
  obtain ⟨T4, X4, e4, st4⟩ := getS2 X3 hx hZ hown (host := "") (Or.inl (hw _ (List.mem_of_getElem? (i := 9) rfl))) Via.refl e3 S_MAX (g := (mkF m 36 #[.val (.int p0), .val (.int p1), .val (.int p2), .val (.ref m1), .val (.double (FP.i2d p0)), .second, .val (.double (FP.i2d p1)), .second, .val (.int (0 : Int32)), .unset, .unset, .unset] [])) rfl (hb hby at_36)
  obtain ⟨cq5, kq5, q5a, q5b, q5c⟩ := isOf hZ e4 E_m1
  obtain ⟨_, _, ⟨T5, L5, k5, n5⟩, -, X5, ⟨Lc5, hQ5, l5, y5, z5⟩, st5⟩ := X4.virtualBack hx (y := (⟨"com/example/hedge/hedge/Direction", "improves", "(DD)Z"⟩ : MethodName)) (z := (⟨"com/example/hedge/hedge/Direction", "improves", "(DD)Z"⟩ : MethodName)) hown (mvT hZ (hw _ (List.mem_of_getElem? (i := 3) rfl))) (mvT hZ (hw _ (List.mem_of_getElem? (i := 4) rfl))) (notFace_of_selects (args := #[]) (mvT hZ (hw _ (List.mem_of_getElem? (i := 6) rfl)))) (mvT hZ (hw _ (List.mem_of_getElem? (i := 6) rfl))) (mvT hZ (hw _ (List.mem_of_getElem? (i := 5) rfl))) (by decide) (backOf (W := 0) (rm1x2 l Z a0 hw [] m1 (FP.i2d p0) (FP.i2d p1) m0 h0 n0 Z0 S_MIN ne_m1_m0 hd23_43) hZ (hw _ (List.mem_of_getElem? (i := 7) rfl)) (hw _ (List.mem_of_getElem? (i := 1) rfl)) (by decide) (by decide)) q5a q5c (g := (mkF m 43 #[.val (.int p0), .val (.int p1), .val (.int p2), .val (.ref m1), .val (.double (FP.i2d p0)), .second, .val (.double (FP.i2d p1)), .second, .val (.int (0 : Int32)), .unset, .unset, .unset] [(.double (FP.i2d p1)), (.double (FP.i2d p0)), (.ref m1)])) rfl (by rw [hml]; rfl) (Steps.refl _) (argsL := [(.double (FP.i2d p0)), (.double (FP.i2d p1))]) (rest := []) (lenOf pd_0 rfl) rfl (by show 2 * 0 + _ ≤ _; exact Nat.le_of_eq rfl) (hb hby at_43) (fun _ _ => ⟨rfl, e4, (by decide : 0 + 0 ≤ _), (by decide : 0 + 0 ≤ _)⟩)
  dsimp only [Pt.U, Pt.locs, Pt.cells, Pt.slots] at X5 l5 y5 z5 st5 hQ5
  subst l5 y5 z5
  obtain ⟨rfl, N5q, eh5⟩ := hQ5
  have N5 := Fr.app N3 N5q
  have e5 : T5.heap = h0 := eh5
  obtain ⟨T6, X6, e6, st6⟩ := getS2 X5 hx hZ hown (host := "") (Or.inl (hw _ (List.mem_of_getElem? (i := 0) rfl))) Via.refl e5 S_MIN (g := (mkF m 48 #[.val (.int p0), .val (.int p1), .val (.int p2), .val (.ref m1), .val (.double (FP.i2d p0)), .second, .val (.double (FP.i2d p1)), .second, .val (.int (0 : Int32)), .val (.int (1 : Int32)), .unset, .unset] [])) rfl (hb hby at_48)
  obtain ⟨cq7, kq7, q7a, q7b, q7c⟩ := isOf hZ e6 E_m0
  obtain ⟨_, _, ⟨T7, L7, k7, n7⟩, -, X7, ⟨Lc7, hQ7, l7, y7, z7⟩, st7⟩ := X6.virtualBack hx (y := (⟨"com/example/hedge/hedge/Direction", "improves", "(DD)Z"⟩ : MethodName)) (z := (⟨"com/example/hedge/hedge/Direction", "improves", "(DD)Z"⟩ : MethodName)) hown (mvT hZ (hw _ (List.mem_of_getElem? (i := 3) rfl))) (mvT hZ (hw _ (List.mem_of_getElem? (i := 4) rfl))) (notFace_of_selects (args := #[]) (mvT hZ (hw _ (List.mem_of_getElem? (i := 6) rfl)))) (mvT hZ (hw _ (List.mem_of_getElem? (i := 6) rfl))) (mvT hZ (hw _ (List.mem_of_getElem? (i := 5) rfl))) (by decide) (backOf (W := 0) (rm1m0 l Z a0 hw [] m0 (FP.i2d p1) (FP.i2d p0) h0 n0 Z0 S_MIN hd9_55) hZ (hw _ (List.mem_of_getElem? (i := 7) rfl)) (hw _ (List.mem_of_getElem? (i := 1) rfl)) (by decide) (by decide)) q7a q7c (g := (mkF m 55 #[.val (.int p0), .val (.int p1), .val (.int p2), .val (.ref m1), .val (.double (FP.i2d p0)), .second, .val (.double (FP.i2d p1)), .second, .val (.int (0 : Int32)), .val (.int (1 : Int32)), .unset, .unset] [(.double (FP.i2d p0)), (.double (FP.i2d p1)), (.ref m0)])) rfl (by rw [hml]; rfl) (Steps.refl _) (argsL := [(.double (FP.i2d p1)), (.double (FP.i2d p0))]) (rest := []) (lenOf pd_0 rfl) rfl (by show 2 * 0 + _ ≤ _; exact Nat.le_of_eq rfl) (hb hby at_55) (fun _ _ => ⟨rfl, e6, (by decide : 0 + 0 ≤ _), (by decide : 0 + 0 ≤ _)⟩)
  dsimp only [Pt.U, Pt.locs, Pt.cells, Pt.slots] at X7 l7 y7 z7 st7 hQ7
  subst l7 y7 z7
  obtain ⟨rfl, N7q, eh7⟩ := hQ7
  have N7 := Fr.app N5 N7q
  have e7 : T7.heap = h0 := eh7
  obtain ⟨cq8, kq8, q8a, q8b, q8c⟩ := isOf hZ e7 E_m1
  obtain ⟨_, _, ⟨T8, L8, k8, n8⟩, -, X8, ⟨Lc8, hQ8, l8, y8, z8⟩, st8⟩ := X7.virtualBack hx (y := (⟨"com/example/hedge/hedge/Direction", "worst", "()D"⟩ : MethodName)) (z := (⟨"com/example/hedge/hedge/Direction", "worst", "()D"⟩ : MethodName)) hown (mvT hZ (hw _ (List.mem_of_getElem? (i := 11) rfl))) (mvT hZ (hw _ (List.mem_of_getElem? (i := 12) rfl))) (notFace_of_selects (args := #[]) (mvT hZ (hw _ (List.mem_of_getElem? (i := 14) rfl)))) (mvT hZ (hw _ (List.mem_of_getElem? (i := 14) rfl))) (mvT hZ (hw _ (List.mem_of_getElem? (i := 13) rfl))) (by decide) (backOf (W := 3) (rm2x l Z a0 hw [] m1 m0 h0 n0 Z0 S_MIN ne_m1_m0) hZ (hw _ (List.mem_of_getElem? (i := 15) rfl)) (hw _ (List.mem_of_getElem? (i := 1) rfl)) (by decide) (by decide)) q8a q8c (g := (mkF m 64 #[.val (.int p0), .val (.int p1), .val (.int p2), .val (.ref m1), .val (.double (FP.i2d p0)), .second, .val (.double (FP.i2d p1)), .second, .val (.int (0 : Int32)), .val (.int (1 : Int32)), .val (.int (1 : Int32)), .unset] [(.ref m1), (.double (FP.i2d p0)), (.ref m1)])) rfl (by rw [hml]; rfl) (Steps.refl _) (argsL := []) (rest := [(.double (FP.i2d p0)), (.ref m1)]) (lenOf pd_1 rfl) rfl (by show 2 * 0 + _ ≤ _; exact Nat.le_of_eq rfl) (hb hby at_64) (fun _ _ => ⟨rfl, e7, (by decide : 0 + 0 ≤ _), (by decide : 0 + 0 ≤ _)⟩)
  dsimp only [Pt.U, Pt.locs, Pt.cells, Pt.slots] at X8 l8 y8 z8 st8 hQ8
  subst l8 y8 z8
  obtain ⟨rfl, N8q, eh8⟩ := hQ8
  have N8 := Fr.app N7 N8q
  have e8 : T8.heap = h0 := eh8
  obtain ⟨cq9, kq9, q9a, q9b, q9c⟩ := isOf hZ e8 E_m1
  obtain ⟨_, _, ⟨T9, L9, k9, n9⟩, -, X9, ⟨Lc9, hQ9, l9, y9, z9⟩, st9⟩ := X8.virtualBack hx (y := (⟨"com/example/hedge/hedge/Direction", "improves", "(DD)Z"⟩ : MethodName)) (z := (⟨"com/example/hedge/hedge/Direction", "improves", "(DD)Z"⟩ : MethodName)) hown (mvT hZ (hw _ (List.mem_of_getElem? (i := 3) rfl))) (mvT hZ (hw _ (List.mem_of_getElem? (i := 4) rfl))) (notFace_of_selects (args := #[]) (mvT hZ (hw _ (List.mem_of_getElem? (i := 6) rfl)))) (mvT hZ (hw _ (List.mem_of_getElem? (i := 6) rfl))) (mvT hZ (hw _ (List.mem_of_getElem? (i := 5) rfl))) (by decide) (backOf (W := 0) (rm1x2 l Z a0 hw [] m1 (FP.i2d p0) (18442240474082181120 : UInt64) m0 h0 n0 Z0 S_MIN ne_m1_m0 hd23_67) hZ (hw _ (List.mem_of_getElem? (i := 7) rfl)) (hw _ (List.mem_of_getElem? (i := 1) rfl)) (by decide) (by decide)) q9a q9c (g := (mkF m 67 #[.val (.int p0), .val (.int p1), .val (.int p2), .val (.ref m1), .val (.double (FP.i2d p0)), .second, .val (.double (FP.i2d p1)), .second, .val (.int (0 : Int32)), .val (.int (1 : Int32)), .val (.int (1 : Int32)), .unset] [(.double (18442240474082181120 : UInt64)), (.double (FP.i2d p0)), (.ref m1)])) rfl (by rw [hml]; rfl) (Steps.refl _) (argsL := [(.double (FP.i2d p0)), (.double (18442240474082181120 : UInt64))]) (rest := []) (lenOf pd_0 rfl) rfl (by show 2 * 0 + _ ≤ _; exact Nat.le_of_eq rfl) (hb hby at_67) (fun _ _ => ⟨rfl, e8, (by decide : 0 + 0 ≤ _), (by decide : 0 + 0 ≤ _)⟩)
  dsimp only [Pt.U, Pt.locs, Pt.cells, Pt.slots] at X9 l9 y9 z9 st9 hQ9
  subst l9 y9 z9
  obtain ⟨rfl, N9q, eh9⟩ := hQ9
  have N9 := Fr.app N8 N9q
  have e9 : T9.heap = h0 := eh9
  obtain ⟨fs, hr, hrun, hended, hW, hsame⟩ := X9.leave (v := some (.int (1 : Int32))) (fun h => by rw [Bd.returns] at h; cases h)
  refine ⟨_, _, pre0 _ ?_, hrun, hended, _, _, rfl, ?_, ⟨_, rfl⟩, hW, hsame.mono (by decide) (by decide)⟩
  · show Steps p.tables e below (s₁.setTop (mkF m 0 #[.val (.int p0), .val (.int p1), .val (.int p2), .unset, .unset, .unset, .unset, .unset, .unset, .unset, .unset, .unset] [])) _
    refine XS.iloadN X0.here hx rfl (hb hby at_0) rfl ?_
    show Steps p.tables e below (s₁.setTop (mkF m 1 #[.val (.int p0), .val (.int p1), .val (.int p2), .unset, .unset, .unset, .unset, .unset, .unset, .unset, .unset, .unset] [(.int p2)])) _
    refine XS.iconst X0.here hx rfl (hb hby at_1) ?_
    show Steps p.tables e below (s₁.setTop (mkF m 2 #[.val (.int p0), .val (.int p1), .val (.int p2), .unset, .unset, .unset, .unset, .unset, .unset, .unset, .unset, .unset] [(.int (1 : Int32)), (.int p2)])) _
    refine XS.iand X0.here hx rfl (hb hby at_2) rfl ?_
    show Steps p.tables e below (s₁.setTop (mkF m 3 #[.val (.int p0), .val (.int p1), .val (.int p2), .unset, .unset, .unset, .unset, .unset, .unset, .unset, .unset, .unset] [(.int (p2 &&& (1 : Int32)))])) _
    refine XS.ifNo X0.here hx rfl (hb hby at_3) rfl ((if0 _ _).trans (feq hc3).1) ?_
    show Steps p.tables e below (s₁.setTop (mkF m 6 #[.val (.int p0), .val (.int p1), .val (.int p2), .unset, .unset, .unset, .unset, .unset, .unset, .unset, .unset, .unset] [])) _
    refine st1 _ ?_
    show Steps p.tables e below (T1.setTop (mkF m 9 #[.val (.int p0), .val (.int p1), .val (.int p2), .unset, .unset, .unset, .unset, .unset, .unset, .unset, .unset, .unset] [(.ref m1)])) _
    refine XS.goto X1.here hx rfl (pc0 := 9) (pc' := 15) rfl (hb hby at_9) (by decide) (by decide) ?_
    show Steps p.tables e below (T1.setTop (mkF m 15 #[.val (.int p0), .val (.int p1), .val (.int p2), .unset, .unset, .unset, .unset, .unset, .unset, .unset, .unset, .unset] [(.ref m1)])) _
    refine XS.astoreN X1.here hx rfl (hb hby at_15) rfl rfl (l' := #[.val (.int p0), .val (.int p1), .val (.int p2), .val (.ref m1), .unset, .unset, .unset, .unset, .unset, .unset, .unset, .unset]) rfl ?_
    show Steps p.tables e below (T1.setTop (mkF m 16 #[.val (.int p0), .val (.int p1), .val (.int p2), .val (.ref m1), .unset, .unset, .unset, .unset, .unset, .unset, .unset, .unset] [])) _
    refine XS.iloadN X1.here hx rfl (hb hby at_16) rfl ?_
    show Steps p.tables e below (T1.setTop (mkF m 17 #[.val (.int p0), .val (.int p1), .val (.int p2), .val (.ref m1), .unset, .unset, .unset, .unset, .unset, .unset, .unset, .unset] [(.int p0)])) _
    refine XS.i2dS X1.here hx rfl (hb hby at_17) rfl (v := (FP.i2d p0)) rfl ?_
    show Steps p.tables e below (T1.setTop (mkF m 18 #[.val (.int p0), .val (.int p1), .val (.int p2), .val (.ref m1), .unset, .unset, .unset, .unset, .unset, .unset, .unset, .unset] [(.double (FP.i2d p0))])) _
    refine XS.dstore X1.here hx rfl (hb hby at_18) rfl (l' := #[.val (.int p0), .val (.int p1), .val (.int p2), .val (.ref m1), .val (.double (FP.i2d p0)), .second, .unset, .unset, .unset, .unset, .unset, .unset]) rfl ?_
    show Steps p.tables e below (T1.setTop (mkF m 20 #[.val (.int p0), .val (.int p1), .val (.int p2), .val (.ref m1), .val (.double (FP.i2d p0)), .second, .unset, .unset, .unset, .unset, .unset, .unset] [])) _
    refine XS.iloadN X1.here hx rfl (hb hby at_20) rfl ?_
    show Steps p.tables e below (T1.setTop (mkF m 21 #[.val (.int p0), .val (.int p1), .val (.int p2), .val (.ref m1), .val (.double (FP.i2d p0)), .second, .unset, .unset, .unset, .unset, .unset, .unset] [(.int p1)])) _
    refine XS.i2dS X1.here hx rfl (hb hby at_21) rfl (v := (FP.i2d p1)) rfl ?_
    show Steps p.tables e below (T1.setTop (mkF m 22 #[.val (.int p0), .val (.int p1), .val (.int p2), .val (.ref m1), .val (.double (FP.i2d p0)), .second, .unset, .unset, .unset, .unset, .unset, .unset] [(.double (FP.i2d p1))])) _
    refine XS.dstore X1.here hx rfl (hb hby at_22) rfl (l' := #[.val (.int p0), .val (.int p1), .val (.int p2), .val (.ref m1), .val (.double (FP.i2d p0)), .second, .val (.double (FP.i2d p1)), .second, .unset, .unset, .unset, .unset]) rfl ?_
    show Steps p.tables e below (T1.setTop (mkF m 24 #[.val (.int p0), .val (.int p1), .val (.int p2), .val (.ref m1), .val (.double (FP.i2d p0)), .second, .val (.double (FP.i2d p1)), .second, .unset, .unset, .unset, .unset] [])) _
    refine st2 _ ?_
    show Steps p.tables e below (T2.setTop (mkF m 27 #[.val (.int p0), .val (.int p1), .val (.int p2), .val (.ref m1), .val (.double (FP.i2d p0)), .second, .val (.double (FP.i2d p1)), .second, .unset, .unset, .unset, .unset] [(.ref m0)])) _
    refine XS.dload X2.here hx rfl (hb hby at_27) rfl ?_
    show Steps p.tables e below (T2.setTop (mkF m 29 #[.val (.int p0), .val (.int p1), .val (.int p2), .val (.ref m1), .val (.double (FP.i2d p0)), .second, .val (.double (FP.i2d p1)), .second, .unset, .unset, .unset, .unset] [(.double (FP.i2d p0)), (.ref m0)])) _
    refine XS.dload X2.here hx rfl (hb hby at_29) rfl ?_
    show Steps p.tables e below (T2.setTop (mkF m 31 #[.val (.int p0), .val (.int p1), .val (.int p2), .val (.ref m1), .val (.double (FP.i2d p0)), .second, .val (.double (FP.i2d p1)), .second, .unset, .unset, .unset, .unset] [(.double (FP.i2d p1)), (.double (FP.i2d p0)), (.ref m0)])) _
    refine st3.trans ?_
    show Steps p.tables e below (T3.setTop (mkF m 34 #[.val (.int p0), .val (.int p1), .val (.int p2), .val (.ref m1), .val (.double (FP.i2d p0)), .second, .val (.double (FP.i2d p1)), .second, .unset, .unset, .unset, .unset] [(.int (0 : Int32))])) _
    refine XS.istore X3.here hx rfl (hb hby at_34) rfl (l' := #[.val (.int p0), .val (.int p1), .val (.int p2), .val (.ref m1), .val (.double (FP.i2d p0)), .second, .val (.double (FP.i2d p1)), .second, .val (.int (0 : Int32)), .unset, .unset, .unset]) rfl ?_
    show Steps p.tables e below (T3.setTop (mkF m 36 #[.val (.int p0), .val (.int p1), .val (.int p2), .val (.ref m1), .val (.double (FP.i2d p0)), .second, .val (.double (FP.i2d p1)), .second, .val (.int (0 : Int32)), .unset, .unset, .unset] [])) _
    refine st4 _ ?_
    show Steps p.tables e below (T4.setTop (mkF m 39 #[.val (.int p0), .val (.int p1), .val (.int p2), .val (.ref m1), .val (.double (FP.i2d p0)), .second, .val (.double (FP.i2d p1)), .second, .val (.int (0 : Int32)), .unset, .unset, .unset] [(.ref m1)])) _
    refine XS.dload X4.here hx rfl (hb hby at_39) rfl ?_
    show Steps p.tables e below (T4.setTop (mkF m 41 #[.val (.int p0), .val (.int p1), .val (.int p2), .val (.ref m1), .val (.double (FP.i2d p0)), .second, .val (.double (FP.i2d p1)), .second, .val (.int (0 : Int32)), .unset, .unset, .unset] [(.double (FP.i2d p0)), (.ref m1)])) _
    refine XS.dload X4.here hx rfl (hb hby at_41) rfl ?_
    show Steps p.tables e below (T4.setTop (mkF m 43 #[.val (.int p0), .val (.int p1), .val (.int p2), .val (.ref m1), .val (.double (FP.i2d p0)), .second, .val (.double (FP.i2d p1)), .second, .val (.int (0 : Int32)), .unset, .unset, .unset] [(.double (FP.i2d p1)), (.double (FP.i2d p0)), (.ref m1)])) _
    refine st5.trans ?_
    show Steps p.tables e below (T5.setTop (mkF m 46 #[.val (.int p0), .val (.int p1), .val (.int p2), .val (.ref m1), .val (.double (FP.i2d p0)), .second, .val (.double (FP.i2d p1)), .second, .val (.int (0 : Int32)), .unset, .unset, .unset] [(.int (1 : Int32))])) _
    refine XS.istore X5.here hx rfl (hb hby at_46) rfl (l' := #[.val (.int p0), .val (.int p1), .val (.int p2), .val (.ref m1), .val (.double (FP.i2d p0)), .second, .val (.double (FP.i2d p1)), .second, .val (.int (0 : Int32)), .val (.int (1 : Int32)), .unset, .unset]) rfl ?_
    show Steps p.tables e below (T5.setTop (mkF m 48 #[.val (.int p0), .val (.int p1), .val (.int p2), .val (.ref m1), .val (.double (FP.i2d p0)), .second, .val (.double (FP.i2d p1)), .second, .val (.int (0 : Int32)), .val (.int (1 : Int32)), .unset, .unset] [])) _
    refine st6 _ ?_
    show Steps p.tables e below (T6.setTop (mkF m 51 #[.val (.int p0), .val (.int p1), .val (.int p2), .val (.ref m1), .val (.double (FP.i2d p0)), .second, .val (.double (FP.i2d p1)), .second, .val (.int (0 : Int32)), .val (.int (1 : Int32)), .unset, .unset] [(.ref m0)])) _
    refine XS.dload X6.here hx rfl (hb hby at_51) rfl ?_
    show Steps p.tables e below (T6.setTop (mkF m 53 #[.val (.int p0), .val (.int p1), .val (.int p2), .val (.ref m1), .val (.double (FP.i2d p0)), .second, .val (.double (FP.i2d p1)), .second, .val (.int (0 : Int32)), .val (.int (1 : Int32)), .unset, .unset] [(.double (FP.i2d p1)), (.ref m0)])) _
    refine XS.dload X6.here hx rfl (hb hby at_53) rfl ?_
    show Steps p.tables e below (T6.setTop (mkF m 55 #[.val (.int p0), .val (.int p1), .val (.int p2), .val (.ref m1), .val (.double (FP.i2d p0)), .second, .val (.double (FP.i2d p1)), .second, .val (.int (0 : Int32)), .val (.int (1 : Int32)), .unset, .unset] [(.double (FP.i2d p0)), (.double (FP.i2d p1)), (.ref m0)])) _
    refine st7.trans ?_
    show Steps p.tables e below (T7.setTop (mkF m 58 #[.val (.int p0), .val (.int p1), .val (.int p2), .val (.ref m1), .val (.double (FP.i2d p0)), .second, .val (.double (FP.i2d p1)), .second, .val (.int (0 : Int32)), .val (.int (1 : Int32)), .unset, .unset] [(.int (1 : Int32))])) _
    refine XS.istore X7.here hx rfl (hb hby at_58) rfl (l' := #[.val (.int p0), .val (.int p1), .val (.int p2), .val (.ref m1), .val (.double (FP.i2d p0)), .second, .val (.double (FP.i2d p1)), .second, .val (.int (0 : Int32)), .val (.int (1 : Int32)), .val (.int (1 : Int32)), .unset]) rfl ?_
    show Steps p.tables e below (T7.setTop (mkF m 60 #[.val (.int p0), .val (.int p1), .val (.int p2), .val (.ref m1), .val (.double (FP.i2d p0)), .second, .val (.double (FP.i2d p1)), .second, .val (.int (0 : Int32)), .val (.int (1 : Int32)), .val (.int (1 : Int32)), .unset] [])) _
    refine XS.aloadN X7.here hx rfl (hb hby at_60) rfl rfl ?_
    show Steps p.tables e below (T7.setTop (mkF m 61 #[.val (.int p0), .val (.int p1), .val (.int p2), .val (.ref m1), .val (.double (FP.i2d p0)), .second, .val (.double (FP.i2d p1)), .second, .val (.int (0 : Int32)), .val (.int (1 : Int32)), .val (.int (1 : Int32)), .unset] [(.ref m1)])) _
    refine XS.dload X7.here hx rfl (hb hby at_61) rfl ?_
    show Steps p.tables e below (T7.setTop (mkF m 63 #[.val (.int p0), .val (.int p1), .val (.int p2), .val (.ref m1), .val (.double (FP.i2d p0)), .second, .val (.double (FP.i2d p1)), .second, .val (.int (0 : Int32)), .val (.int (1 : Int32)), .val (.int (1 : Int32)), .unset] [(.double (FP.i2d p0)), (.ref m1)])) _
    refine XS.aloadN X7.here hx rfl (hb hby at_63) rfl rfl ?_
    show Steps p.tables e below (T7.setTop (mkF m 64 #[.val (.int p0), .val (.int p1), .val (.int p2), .val (.ref m1), .val (.double (FP.i2d p0)), .second, .val (.double (FP.i2d p1)), .second, .val (.int (0 : Int32)), .val (.int (1 : Int32)), .val (.int (1 : Int32)), .unset] [(.ref m1), (.double (FP.i2d p0)), (.ref m1)])) _
    refine st8.trans ?_
    show Steps p.tables e below (T8.setTop (mkF m 67 #[.val (.int p0), .val (.int p1), .val (.int p2), .val (.ref m1), .val (.double (FP.i2d p0)), .second, .val (.double (FP.i2d p1)), .second, .val (.int (0 : Int32)), .val (.int (1 : Int32)), .val (.int (1 : Int32)), .unset] [(.double (18442240474082181120 : UInt64)), (.double (FP.i2d p0)), (.ref m1)])) _
    refine st9.trans ?_
    show Steps p.tables e below (T9.setTop (mkF m 70 #[.val (.int p0), .val (.int p1), .val (.int p2), .val (.ref m1), .val (.double (FP.i2d p0)), .second, .val (.double (FP.i2d p1)), .second, .val (.int (0 : Int32)), .val (.int (1 : Int32)), .val (.int (1 : Int32)), .unset] [(.int (1 : Int32))])) _
    refine XS.istore X9.here hx rfl (hb hby at_70) rfl (l' := #[.val (.int p0), .val (.int p1), .val (.int p2), .val (.ref m1), .val (.double (FP.i2d p0)), .second, .val (.double (FP.i2d p1)), .second, .val (.int (0 : Int32)), .val (.int (1 : Int32)), .val (.int (1 : Int32)), .val (.int (1 : Int32))]) rfl ?_
    show Steps p.tables e below (T9.setTop (mkF m 72 #[.val (.int p0), .val (.int p1), .val (.int p2), .val (.ref m1), .val (.double (FP.i2d p0)), .second, .val (.double (FP.i2d p1)), .second, .val (.int (0 : Int32)), .val (.int (1 : Int32)), .val (.int (1 : Int32)), .val (.int (1 : Int32))] [])) _
    refine XS.iload X9.here hx rfl (hb hby at_72) rfl ?_
    show Steps p.tables e below (T9.setTop (mkF m 74 #[.val (.int p0), .val (.int p1), .val (.int p2), .val (.ref m1), .val (.double (FP.i2d p0)), .second, .val (.double (FP.i2d p1)), .second, .val (.int (0 : Int32)), .val (.int (1 : Int32)), .val (.int (1 : Int32)), .val (.int (1 : Int32))] [(.int (0 : Int32))])) _
    refine XS.iloadN X9.here hx rfl (hb hby at_74) rfl ?_
    show Steps p.tables e below (T9.setTop (mkF m 75 #[.val (.int p0), .val (.int p1), .val (.int p2), .val (.ref m1), .val (.double (FP.i2d p0)), .second, .val (.double (FP.i2d p1)), .second, .val (.int (0 : Int32)), .val (.int (1 : Int32)), .val (.int (1 : Int32)), .val (.int (1 : Int32))] [(.int p0), (.int (0 : Int32))])) _
    refine XS.iloadN X9.here hx rfl (hb hby at_75) rfl ?_
    show Steps p.tables e below (T9.setTop (mkF m 76 #[.val (.int p0), .val (.int p1), .val (.int p2), .val (.ref m1), .val (.double (FP.i2d p0)), .second, .val (.double (FP.i2d p1)), .second, .val (.int (0 : Int32)), .val (.int (1 : Int32)), .val (.int (1 : Int32)), .val (.int (1 : Int32))] [(.int p1), (.int p0), (.int (0 : Int32))])) _
    refine XS.icmpYes X9.here hx rfl (pc0 := 76) (pc' := 83) rfl (hb hby at_76) rfl (flt hc76).2.1 (by decide) (by decide) ?_
    show Steps p.tables e below (T9.setTop (mkF m 83 #[.val (.int p0), .val (.int p1), .val (.int p2), .val (.ref m1), .val (.double (FP.i2d p0)), .second, .val (.double (FP.i2d p1)), .second, .val (.int (0 : Int32)), .val (.int (1 : Int32)), .val (.int (1 : Int32)), .val (.int (1 : Int32))] [(.int (0 : Int32))])) _
    refine XS.iconst X9.here hx rfl (hb hby at_83) ?_
    show Steps p.tables e below (T9.setTop (mkF m 84 #[.val (.int p0), .val (.int p1), .val (.int p2), .val (.ref m1), .val (.double (FP.i2d p0)), .second, .val (.double (FP.i2d p1)), .second, .val (.int (0 : Int32)), .val (.int (1 : Int32)), .val (.int (1 : Int32)), .val (.int (1 : Int32))] [(.int (0 : Int32)), (.int (0 : Int32))])) _
    refine XS.icmpNo X9.here hx rfl (hb hby at_84) rfl (teq (by decide : (0 : Int32) = (0 : Int32))).2 ?_
    show Steps p.tables e below (T9.setTop (mkF m 87 #[.val (.int p0), .val (.int p1), .val (.int p2), .val (.ref m1), .val (.double (FP.i2d p0)), .second, .val (.double (FP.i2d p1)), .second, .val (.int (0 : Int32)), .val (.int (1 : Int32)), .val (.int (1 : Int32)), .val (.int (1 : Int32))] [])) _
    refine XS.iload X9.here hx rfl (hb hby at_87) rfl ?_
    show Steps p.tables e below (T9.setTop (mkF m 89 #[.val (.int p0), .val (.int p1), .val (.int p2), .val (.ref m1), .val (.double (FP.i2d p0)), .second, .val (.double (FP.i2d p1)), .second, .val (.int (0 : Int32)), .val (.int (1 : Int32)), .val (.int (1 : Int32)), .val (.int (1 : Int32))] [(.int (1 : Int32))])) _
    refine XS.iloadN X9.here hx rfl (hb hby at_89) rfl ?_
    show Steps p.tables e below (T9.setTop (mkF m 90 #[.val (.int p0), .val (.int p1), .val (.int p2), .val (.ref m1), .val (.double (FP.i2d p0)), .second, .val (.double (FP.i2d p1)), .second, .val (.int (0 : Int32)), .val (.int (1 : Int32)), .val (.int (1 : Int32)), .val (.int (1 : Int32))] [(.int p0), (.int (1 : Int32))])) _
    refine XS.iloadN X9.here hx rfl (hb hby at_90) rfl ?_
    show Steps p.tables e below (T9.setTop (mkF m 91 #[.val (.int p0), .val (.int p1), .val (.int p2), .val (.ref m1), .val (.double (FP.i2d p0)), .second, .val (.double (FP.i2d p1)), .second, .val (.int (0 : Int32)), .val (.int (1 : Int32)), .val (.int (1 : Int32)), .val (.int (1 : Int32))] [(.int p1), (.int p0), (.int (1 : Int32))])) _
    refine XS.icmpNo X9.here hx rfl (hb hby at_91) rfl (tlt hc91).2.2.2 ?_
    show Steps p.tables e below (T9.setTop (mkF m 94 #[.val (.int p0), .val (.int p1), .val (.int p2), .val (.ref m1), .val (.double (FP.i2d p0)), .second, .val (.double (FP.i2d p1)), .second, .val (.int (0 : Int32)), .val (.int (1 : Int32)), .val (.int (1 : Int32)), .val (.int (1 : Int32))] [(.int (1 : Int32))])) _
    refine XS.iconst X9.here hx rfl (hb hby at_94) ?_
    show Steps p.tables e below (T9.setTop (mkF m 95 #[.val (.int p0), .val (.int p1), .val (.int p2), .val (.ref m1), .val (.double (FP.i2d p0)), .second, .val (.double (FP.i2d p1)), .second, .val (.int (0 : Int32)), .val (.int (1 : Int32)), .val (.int (1 : Int32)), .val (.int (1 : Int32))] [(.int (1 : Int32)), (.int (1 : Int32))])) _
    refine XS.goto X9.here hx rfl (pc0 := 95) (pc' := 99) rfl (hb hby at_95) (by decide) (by decide) ?_
    show Steps p.tables e below (T9.setTop (mkF m 99 #[.val (.int p0), .val (.int p1), .val (.int p2), .val (.ref m1), .val (.double (FP.i2d p0)), .second, .val (.double (FP.i2d p1)), .second, .val (.int (0 : Int32)), .val (.int (1 : Int32)), .val (.int (1 : Int32)), .val (.int (1 : Int32))] [(.int (1 : Int32)), (.int (1 : Int32))])) _
    refine XS.icmpNo X9.here hx rfl (hb hby at_99) rfl (teq (by decide : (1 : Int32) = (1 : Int32))).2 ?_
    show Steps p.tables e below (T9.setTop (mkF m 102 #[.val (.int p0), .val (.int p1), .val (.int p2), .val (.ref m1), .val (.double (FP.i2d p0)), .second, .val (.double (FP.i2d p1)), .second, .val (.int (0 : Int32)), .val (.int (1 : Int32)), .val (.int (1 : Int32)), .val (.int (1 : Int32))] [])) _
    refine XS.iload X9.here hx rfl (hb hby at_102) rfl ?_
    show Steps p.tables e below (T9.setTop (mkF m 104 #[.val (.int p0), .val (.int p1), .val (.int p2), .val (.ref m1), .val (.double (FP.i2d p0)), .second, .val (.double (FP.i2d p1)), .second, .val (.int (0 : Int32)), .val (.int (1 : Int32)), .val (.int (1 : Int32)), .val (.int (1 : Int32))] [(.int (1 : Int32))])) _
    refine XS.iload X9.here hx rfl (hb hby at_104) rfl ?_
    show Steps p.tables e below (T9.setTop (mkF m 106 #[.val (.int p0), .val (.int p1), .val (.int p2), .val (.ref m1), .val (.double (FP.i2d p0)), .second, .val (.double (FP.i2d p1)), .second, .val (.int (0 : Int32)), .val (.int (1 : Int32)), .val (.int (1 : Int32)), .val (.int (1 : Int32))] [(.int (1 : Int32)), (.int (1 : Int32))])) _
    refine XS.icmpNo X9.here hx rfl (hb hby at_106) rfl (teq (by decide : (1 : Int32) = (1 : Int32))).2 ?_
    show Steps p.tables e below (T9.setTop (mkF m 109 #[.val (.int p0), .val (.int p1), .val (.int p2), .val (.ref m1), .val (.double (FP.i2d p0)), .second, .val (.double (FP.i2d p1)), .second, .val (.int (0 : Int32)), .val (.int (1 : Int32)), .val (.int (1 : Int32)), .val (.int (1 : Int32))] [])) _
    refine XS.iload X9.here hx rfl (hb hby at_109) rfl ?_
    show Steps p.tables e below (T9.setTop (mkF m 111 #[.val (.int p0), .val (.int p1), .val (.int p2), .val (.ref m1), .val (.double (FP.i2d p0)), .second, .val (.double (FP.i2d p1)), .second, .val (.int (0 : Int32)), .val (.int (1 : Int32)), .val (.int (1 : Int32)), .val (.int (1 : Int32))] [(.int (1 : Int32))])) _
    refine XS.ifNo X9.here hx rfl (hb hby at_111) rfl ((if0 _ _).trans (feq (by decide : ¬ ((1 : Int32) = (0 : Int32)))).1) ?_
    show Steps p.tables e below (T9.setTop (mkF m 114 #[.val (.int p0), .val (.int p1), .val (.int p2), .val (.ref m1), .val (.double (FP.i2d p0)), .second, .val (.double (FP.i2d p1)), .second, .val (.int (0 : Int32)), .val (.int (1 : Int32)), .val (.int (1 : Int32)), .val (.int (1 : Int32))] [])) _
    refine XS.iconst X9.here hx rfl (hb hby at_114) ?_
    show Steps p.tables e below (T9.setTop (mkF m 115 #[.val (.int p0), .val (.int p1), .val (.int p2), .val (.ref m1), .val (.double (FP.i2d p0)), .second, .val (.double (FP.i2d p1)), .second, .val (.int (0 : Int32)), .val (.int (1 : Int32)), .val (.int (1 : Int32)), .val (.int (1 : Int32))] [(.int (1 : Int32))])) _
    refine XS.goto X9.here hx rfl (pc0 := 115) (pc' := 119) rfl (hb hby at_115) (by decide) (by decide) ?_
    show Steps p.tables e below (T9.setTop (mkF m 119 #[.val (.int p0), .val (.int p1), .val (.int p2), .val (.ref m1), .val (.double (FP.i2d p0)), .second, .val (.double (FP.i2d p1)), .second, .val (.int (0 : Int32)), .val (.int (1 : Int32)), .val (.int (1 : Int32)), .val (.int (1 : Int32))] [(.int (1 : Int32))])) _
    exact retN X9 hx (t := .boolean) Bd.returns (by simp) (hb hby at_119) hr
  · show Q0 n0 _ T9.heap _
    rw [e9]
    exact ⟨rfl, N9⟩
theorem own_eqi {args : Array Value} {first s : State} {o : Option Outcome} {idx : List Nat} {t : Term} {k : Int32} (h : (Cond.eq t (.int k)).value args first o s idx = some true) : t.eval args first o idx s = some (.int k) := by
  simp only [Cond.value, Term.eval] at h; cases ht : t.eval args first o idx s with | none => simp [ht] at h | some x => cases x <;> simp [ht] at h ⊢; exact h
theorem own_law (l : Launch) (Z : State) (a0 : Array Value) (hw : ∀ d ∈ tables_1, d.before a0 Z = true) (ws : List Jvm.Cond) (p0 : Int32) (p1 : Int32) (p2 : Int32) (h0 : Heap) (n0 : Nat) (Z0 : n0 ≤ h0.size) (m0 m1 : Addr) (S0 : Sta Z h0 "com/example/hedge/hedge/Direction" "MIN" "Lcom/example/hedge/hedge/Direction;" (.ref m0)) (S1 : Sta Z h0 "com/example/hedge/hedge/Direction" "MAX" "Lcom/example/hedge/hedge/Direction;" (.ref m1)) (E0 : Exa Z h0 m0 "com/example/hedge/hedge/Direction") (E1 : Exa Z h0 m1 "com/example/hedge/hedge/Direction") (ne : m1 ≠ m0) :
    MetFree l x (head1 (Jvm.Cond.code x code maxLocals ret :: ws) room_1) (fun a U => a = #[(.int p0), (.int p1), (.int p2)] ∧ Z.Warmed39 U.vm ∧ U.heap = h0) (fun _ _ _ _ _ => True) (fun _ U o U' => ∃ v L, o = .returned v ∧ Q0 n0 v U'.heap L ∧ FrameEnd U o U' L room_1.cells room_1.slots) := by
  have hx := Jvm.OwnFP.Ra.i2d p0
  have hy := Jvm.OwnFP.Ra.i2d p1
  have gp := Jvm.RoadKit.dcmp_pinf hx.fin
  have gn := Jvm.RoadKit.dcmp_ninf hx.fin
  rcases Int.lt_trichotomy p0.toInt p1.toInt with h | h | h
  · have l1 : p0 < p1 := Int32.lt_iff_toInt_lt.mpr h
    have l2 : ¬ (p1 < p0) := fun q => by have := Int32.lt_iff_toInt_lt.mp q; omega
    by_cases hc : (p2 &&& (1 : Int32)) = (0 : Int32)
    · exact rm0_0_0 l Z a0 hw ws p0 p1 p2 m0 m1 h0 n0 Z0 S0 S1 E0 E1 ne (hc3 := hc) (hd9_31 := hx.lt hy (by decide) h _) (hd23_43 := hx.lt hy (by decide) h _) (hd9_55 := hy.gt hx (by decide) h _) (hd9_67 := gp _) (hc76 := l1) (hc91 := l2)
    · exact rm0_0_1 l Z a0 hw ws p0 p1 p2 m0 m1 h0 n0 Z0 S0 S1 E0 E1 ne (hc3 := hc) (hd9_31 := hx.lt hy (by decide) h _) (hd23_43 := hx.lt hy (by decide) h _) (hd9_55 := hy.gt hx (by decide) h _) (hd23_67 := gn _) (hc76 := l1) (hc91 := l2)
  · have l1 : ¬ (p0 < p1) := fun q => by have := Int32.lt_iff_toInt_lt.mp q; omega
    have l2 : ¬ (p1 < p0) := fun q => by have := Int32.lt_iff_toInt_lt.mp q; omega
    by_cases hc : (p2 &&& (1 : Int32)) = (0 : Int32)
    · exact rm0_1_0 l Z a0 hw ws p0 p1 p2 m0 m1 h0 n0 Z0 S0 S1 E0 E1 ne (hc3 := hc) (hd9_31 := hx.eq hy (by decide) h _) (hd23_43 := hx.eq hy (by decide) h _) (hd9_55 := hy.eq hx (by decide) h.symm _) (hd9_67 := gp _) (hc76 := l1) (hc91 := l2)
    · exact rm0_1_1 l Z a0 hw ws p0 p1 p2 m0 m1 h0 n0 Z0 S0 S1 E0 E1 ne (hc3 := hc) (hd9_31 := hx.eq hy (by decide) h _) (hd23_43 := hx.eq hy (by decide) h _) (hd9_55 := hy.eq hx (by decide) h.symm _) (hd23_67 := gn _) (hc76 := l1) (hc91 := l2)
  · have l1 : ¬ (p0 < p1) := fun q => by have := Int32.lt_iff_toInt_lt.mp q; omega
    have l2 : p1 < p0 := Int32.lt_iff_toInt_lt.mpr h
    by_cases hc : (p2 &&& (1 : Int32)) = (0 : Int32)
    · exact rm0_2_0 l Z a0 hw ws p0 p1 p2 m0 m1 h0 n0 Z0 S0 S1 E0 E1 ne (hc3 := hc) (hd9_31 := hx.gt hy (by decide) h _) (hd23_43 := hx.gt hy (by decide) h _) (hd9_55 := hy.lt hx (by decide) h _) (hd9_67 := gp _) (hc76 := l1) (hc91 := l2)
    · exact rm0_2_1 l Z a0 hw ws p0 p1 p2 m0 m1 h0 n0 Z0 S0 S1 E0 E1 ne (hc3 := hc) (hd9_31 := hx.gt hy (by decide) h _) (hd23_43 := hx.gt hy (by decide) h _) (hd9_55 := hy.lt hx (by decide) h _) (hd23_67 := gn _) (hc76 := l1) (hc91 := l2)
set_option maxRecDepth 65536 in
set_option maxHeartbeats 40000000 in
theorem comes_1 {Post : Tables → Env → Array Value → State → Outcome → State → Prop} (hpost : ∀ tb e args s v u, (limb_1_1.after args s (.returned v) u = true ∧ limb_1_2.after args s (.returned v) u = true ∧ True) → FrameEnd s (.returned v) u (Jvm.fieldLocs frame_1_writes args s ++ Jvm.arrayLocs frame_1_arrays args s ++ Jvm.staticLocs frame_1_statics s) 0 0 → Post tb e args s (.returned v) u) :
    ArmFor flags0 classFile x code maxLocals ret World_1 tables_1 room_1 Calls_1 rest_1 Pre_1 Post := by
  intro l hfl _ _ p e ha hc hk s m args below hf hA hF happ hP
  obtain ⟨hcalls, hrest, hpre⟩ := hP
  obtain ⟨-, -, -, hnamed, -, -, -, hat⟩ := (Spec.applies_iff hf).mp happ
  obtain ⟨hg, hn⟩ := and_e (Cond.before_iff.mp (show (Jvm.Cond.and given_1 narrow_1).before args s = true from hpre))
  obtain ⟨g1, g2⟩ := and_e hg
  obtain ⟨g3, g4⟩ := and_e g2
  obtain ⟨g5, g6⟩ := and_e g4
  obtain ⟨w0, w1, w2, rfl⟩ : ∃ w0 w1 w2 : Value, args = #[w0, w1, w2] := by
    have hs : args.size = 3 := by simpa [Cond.value, given_1] using g1
    obtain ⟨L⟩ := args
    match L, hs with
    | [w0, w1, w2], _ => exact ⟨w0, w1, w2, rfl⟩
  have hw := fun d (hd : d ∈ tables_1) => atoms_spec (ws := Jvm.Cond.code x code maxLocals ret :: tables_1) hat d (List.mem_cons_of_mem _ hd)
  have hfit : Fit s := fun {y c} hc i hi => by
    obtain ⟨ha, rfl⟩ := Array.getElem?_eq_some_iff.mp hc
    have q := List.all_eq_true.mp ((Array.all_eq_true_iff_forall_mem.mp hF) _ (Array.getElem_mem ha)) i (List.mem_range.mpr hi)
    simpa [Array.getElem?_eq_getElem hi] using q
  obtain ⟨i0, ei0⟩ := is_v g3
  obtain rfl : w0 = (.int i0) := Option.some.inj ei0
  obtain ⟨i1, ei1⟩ := is_v g5
  obtain rfl : w1 = (.int i1) := Option.some.inj ei1
  obtain ⟨i2, ei2⟩ := is_v g6
  obtain rfl : w2 = (.int i2) := Option.some.inj ei2
  obtain ⟨x1, x2⟩ := and_e hn
  obtain ⟨x3, x4⟩ := and_e x2
  obtain ⟨x5, x6⟩ := and_e x4
  obtain ⟨m0, ev0⟩ := exa_v x1
  obtain ⟨m1, ev1⟩ := exa_v x3
  have S0 := Sta.start ev0 (Or.inr ⟨hw _ (List.mem_of_getElem? (i := 1) rfl), hw _ (List.mem_of_getElem? (i := 2) rfl)⟩)
  have S1 := Sta.start ev1 (Or.inr ⟨hw _ (List.mem_of_getElem? (i := 1) rfl), hw _ (List.mem_of_getElem? (i := 10) rfl)⟩)
  have E0 := Exa.start ev0 x1
  have E1 := Exa.start ev1 x3
  have ne : m1 ≠ m0 := fun q => by
    have y5 := own_eqi x5
    have y6 := own_eqi x6
    rw [fld_at ev1, q] at y5
    rw [fld_at ev0, y5] at y6
    cases y6
  obtain ⟨n, o, h1, h2, h3, _, L, rfl, ⟨rfl, N⟩, hq⟩ := own_law l s _ hw tables_1 i0 i1 i2 s.heap s.heap.size (Nat.le_refl _) m0 m1 S0 S1 E0 E1 ne p e ha hc hk s m _ below hf ((Spec.applies_iff_loose hf).mp happ).1 ⟨rfl, State.Warmed39.refl s, rfl⟩ trivial
  refine ⟨n, _, h1, h2, h3, hpost _ _ _ _ _ _ ⟨Cond.after_iff.mpr rfl, Cond.after_iff.mpr (eq_i res_at (Term.int_eval (1)) rfl), trivial⟩ ⟨hq.1, hq.2.1, (hq.2.2.sift fun y hy => Or.inr (N y hy)).mono (by decide) (by decide)⟩⟩
theorem main_1_1 : Claimed_1_1 := comes_1 fun _ _ _ _ _ _ h hF => ⟨h.1, hF⟩
theorem main_1_2 : Claimed_1_2 := comes_1 fun _ _ _ _ _ _ h hF => ⟨h.2.1, hF⟩
end Jvm.Pilot.@@N@@
namespace Jvm.Pilot.@@N@@
open Jvm Jvm.ClassFile Sem Op Lib Jvm.Free Jvm.Stand Jvm.Pilot.@@N@@.Jvm.D
/-! MADE BY PROGRAM (witnessworld.py) out of the Statement's table words and the real class files: 12 classes; the members and pool entries that the words name. The judged class is class 1, her method 1. -/
namespace start1
open Jvm.ClassFile
def u (s : String) : CpInfo := .utf8 (stringToUtf16 s)
/-- a pool by its gaps: so many unusable entries, then the entry; so many at the end -/
def gap : Nat → List CpInfo → List CpInfo
  | 0, r => r
  | n + 1, r => .unusable :: gap n r
def poolList (es : List (Nat × CpInfo)) (last : Nat) : List CpInfo := es.foldr (fun e r => gap e.1 (e.2 :: r)) (gap last [])
def pool (es : List (Nat × CpInfo)) (last : Nat) : Array CpInfo := ⟨poolList es last⟩
def fileOf (pool : Array CpInfo) (this : Nat) (attrs : Array Attribute := #[]) (ms : Array MethodInfo := #[]) (fl : Nat := 33) (sup : Nat := 0) (ifs : Array Nat := #[]) (fds : Array FieldInfo := #[]) : ClassFile where
  minorVersion := 0
  majorVersion := 65
  constantPool := pool
  accessFlags := fl
  thisClass := this
  superClass := sup
  interfaces := ifs
  fields := fds
  methods := ms
  attributes := attrs
def plain (name : String) (sup : Option ClassId) : Class where
  name := name
  kind := .ordinary
  loader := none
  accessFlags := 33
  super := sup
  interfaces := #[]
  cf := none
  fields := #[]
  methods := #[]
  instanceTypes := #[]
  staticTypes := #[]
  resolved := #[]
  callSites := []
  init := .initialized
  statics := none
  mirror := none

def pool0 : Array CpInfo := pool [(5, u "<init>"), (0, u "()V"), (1, .class_ 10), (1, u "java/lang/Object")] 113

def k0m0 : Method := { name := "<init>", desc := "()V", sig := { parameters := [], returnType := none }, accessFlags := 1, code := none }
/-- java/lang/Object -/
def k0 : Class := { plain "java/lang/Object" none with
  accessFlags := 33
  interfaces := #[]
  cf := some (fileOf pool0 8 #[] #[{ accessFlags := 1, nameIndex := 5, descriptorIndex := 6, attributes := #[] }] 33 0 #[] #[])
  fields := #[]
  methods := #[k0m0]
  instanceTypes := #[]
  staticTypes := #[]
  resolved := Array.replicate 124 none
  statics := none }

def pool1 : Array CpInfo := pool [(2, .class_ 4), (1, u "java/lang/Object"), (0, u "<init>"), (0, u "()V"), (0, .fieldref 8 9), (0, .class_ 10), (0, .nameAndType 11 12), (0, u "com/example/hedge/hedge/Direction"), (0, u "MAX"), (0, u "Lcom/example/hedge/hedge/Direction;"), (0, .fieldref 8 14), (0, .nameAndType 15 12), (0, u "MIN"), (0, .methodref 8 17), (0, .nameAndType 18 19), (0, u "improves"), (0, u "(DD)Z"), (0, .methodref 8 21), (0, .nameAndType 22 23), (0, u "worst"), (0, u "()D"), (0, .class_ 25), (0, u "com/example/hedge/hedge/DirectionImprovesPinLaw"), (2, u "law"), (0, u "(III)Z")] 3

def k1m0 : Method := { name := "<init>", desc := "()V", sig := { parameters := [], returnType := none }, accessFlags := 1, code := none }
def k1c1 : Code := { maxStack := 5, maxLocals := 12, code := code, exceptionTable := #[], attributes := #[] }
def k1m1 : Method := { name := "law", desc := "(III)Z", sig := { parameters := [.int, .int, .int], returnType := some .boolean }, accessFlags := 9, code := some k1c1 }
/-- com/example/hedge/hedge/DirectionImprovesPinLaw -/
def k1 : Class := { plain "com/example/hedge/hedge/DirectionImprovesPinLaw" (some 0) with
  accessFlags := 49
  interfaces := #[]
  cf := some (fileOf pool1 24 #[] #[{ accessFlags := 1, nameIndex := 5, descriptorIndex := 6, attributes := #[] }, { accessFlags := 9, nameIndex := 28, descriptorIndex := 29, attributes := #[] }] 49 2 #[] #[])
  fields := #[]
  methods := #[k1m0, k1m1]
  instanceTypes := #[]
  staticTypes := #[]
  resolved := Array.replicate 33 none
  statics := none }

def pool2 : Array CpInfo := pool [(1, .class_ 2), (0, u "java/lang/constant/Constable"), (0, .class_ 4), (0, u "java/lang/Object")] 6

/-- java/lang/constant/Constable -/
def k2 : Class := { plain "java/lang/constant/Constable" (some 0) with
  accessFlags := 1537
  interfaces := #[]
  cf := some (fileOf pool2 1 #[] #[] 1537 3 #[] #[])
  fields := #[]
  methods := #[]
  instanceTypes := #[]
  staticTypes := #[]
  resolved := Array.replicate 11 none
  statics := none }

def pool3 : Array CpInfo := pool [(1, .class_ 2), (0, u "java/lang/Comparable"), (0, .class_ 4), (0, u "java/lang/Object")] 7

/-- java/lang/Comparable -/
def k3 : Class := { plain "java/lang/Comparable" (some 0) with
  accessFlags := 1537
  interfaces := #[]
  cf := some (fileOf pool3 1 #[] #[] 1537 3 #[] #[])
  fields := #[]
  methods := #[]
  instanceTypes := #[]
  staticTypes := #[]
  resolved := Array.replicate 12 none
  statics := none }

def pool4 : Array CpInfo := pool [(1, .class_ 2), (0, u "java/io/Serializable"), (0, .class_ 4), (0, u "java/lang/Object")] 2

/-- java/io/Serializable -/
def k4 : Class := { plain "java/io/Serializable" (some 0) with
  accessFlags := 1537
  interfaces := #[]
  cf := some (fileOf pool4 1 #[] #[] 1537 3 #[] #[])
  fields := #[]
  methods := #[]
  instanceTypes := #[]
  staticTypes := #[]
  resolved := Array.replicate 7 none
  statics := none }

def pool5 : Array CpInfo := pool [(2, .class_ 4), (1, u "java/lang/Enum"), (0, u "name"), (0, u "Ljava/lang/String;"), (2, u "ordinal"), (0, u "I"), (1, .class_ 14), (1, u "java/lang/Object"), (4, u "hash"), (86, .class_ 108), (1, u "java/lang/Enum$EnumDesc"), (2, .class_ 112), (0, u "java/lang/constant/Constable"), (0, .class_ 114), (0, u "java/lang/Comparable"), (0, .class_ 116), (0, u "java/io/Serializable")] 87

/-- java/lang/Enum -/
def k5 : Class := { plain "java/lang/Enum" (some 0) with
  accessFlags := 1057
  interfaces := #[2, 3, 4]
  cf := some (fileOf pool5 2 #[.nestMembers #[106]] #[] 1057 12 #[111, 113, 115] #[{ accessFlags := 18, nameIndex := 5, descriptorIndex := 6, attributes := #[] }, { accessFlags := 18, nameIndex := 9, descriptorIndex := 10, attributes := #[] }, { accessFlags := 2, nameIndex := 19, descriptorIndex := 10, attributes := #[] }])
  fields := #[{ name := "name", type := (.object "java/lang/String"), accessFlags := 18, slot := 0, constantValue := 0 }, { name := "ordinal", type := .int, accessFlags := 18, slot := 1, constantValue := 0 }, { name := "hash", type := .int, accessFlags := 2, slot := 2, constantValue := 0 }]
  methods := #[]
  instanceTypes := #[(.object "java/lang/String"), .int, .int]
  staticTypes := #[]
  resolved := Array.replicate 204 none
  statics := none }

def pool6 : Array CpInfo := pool [(1, .class_ 2), (0, u "com/example/hedge/hedge/Direction"), (0, .fieldref 1 4), (0, .nameAndType 5 6), (0, u "MIN"), (0, u "Lcom/example/hedge/hedge/Direction;"), (2, u "MAX"), (2, u "$VALUES"), (0, u "[Lcom/example/hedge/hedge/Direction;"), (6, .class_ 22), (1, u "java/lang/Enum"), (8, .double 9218868437227405312), (1, .double 18442240474082181120), (15, u "improves"), (0, u "(DD)Z"), (1, u "worst"), (0, u "()D")] 4

def k6c0 : Code := { maxStack := 4, maxLocals := 5, code := prog_7_method_4_code, exceptionTable := #[], attributes := #[] }
def k6m0 : Method := { name := "improves", desc := "(DD)Z", sig := { parameters := [.double, .double], returnType := some .boolean }, accessFlags := 0, code := some k6c0 }
def k6c1 : Code := { maxStack := 2, maxLocals := 1, code := prog_7_method_5_code, exceptionTable := #[], attributes := #[] }
def k6m1 : Method := { name := "worst", desc := "()D", sig := { parameters := [], returnType := some .double }, accessFlags := 0, code := some k6c1 }
/-- com/example/hedge/hedge/Direction -/
def k6 : Class := { plain "com/example/hedge/hedge/Direction" (some 5) with
  accessFlags := 16433
  interfaces := #[]
  cf := some (fileOf pool6 1 #[] #[{ accessFlags := 0, nameIndex := 49, descriptorIndex := 50, attributes := #[] }, { accessFlags := 0, nameIndex := 52, descriptorIndex := 53, attributes := #[] }] 16433 20 #[] #[{ accessFlags := 16409, nameIndex := 5, descriptorIndex := 6, attributes := #[] }, { accessFlags := 16409, nameIndex := 9, descriptorIndex := 6, attributes := #[] }, { accessFlags := 4122, nameIndex := 12, descriptorIndex := 13, attributes := #[] }])
  fields := #[{ name := "MIN", type := (.object "com/example/hedge/hedge/Direction"), accessFlags := 16409, slot := 0, constantValue := 0 }, { name := "MAX", type := (.object "com/example/hedge/hedge/Direction"), accessFlags := 16409, slot := 1, constantValue := 0 }, { name := "$VALUES", type := (.array (.object "com/example/hedge/hedge/Direction")), accessFlags := 4122, slot := 2, constantValue := 0 }]
  methods := #[k6m0, k6m1]
  instanceTypes := #[(.object "java/lang/String"), .int, .int]
  staticTypes := #[(.object "com/example/hedge/hedge/Direction"), (.object "com/example/hedge/hedge/Direction"), (.array (.object "com/example/hedge/hedge/Direction"))]
  resolved := Array.replicate 58 none
  statics := some 0 }

def pool7 : Array CpInfo := pool [(1, u "java/lang/Cloneable"), (0, .class_ 1), (0, u "java/lang/Object"), (0, .class_ 3)] 3

/-- java/lang/Cloneable -/
def k7 : Class := { plain "java/lang/Cloneable" (some 0) with
  accessFlags := 1537
  interfaces := #[]
  cf := some (fileOf pool7 2 #[] #[] 1537 4 #[] #[])
  fields := #[]
  methods := #[]
  instanceTypes := #[]
  staticTypes := #[]
  resolved := Array.replicate 8 none
  statics := none }

/-- the primitive byte -/
def k8 : Class := { plain "byte" none with kind := .primitive 'B', accessFlags := 0x411 }
/-- [B -/
def k9 : Class := { plain "[B" (some 0) with kind := .array 8 .byte, interfaces := #[7, 4], accessFlags := 1041 }

/-- the primitive int -/
def k10 : Class := { plain "int" none with kind := .primitive 'I', accessFlags := 0x411 }
/-- [I -/
def k11 : Class := { plain "[I" (some 0) with kind := .array 10 .int, interfaces := #[7, 4], accessFlags := 1041 }

def heap : Heap := #[{ cls := 6, slots := #[.ref 1, .ref 2, .null], vm := .statics 6 },
  { cls := 6, slots := #[.null, .int 0, .int 0], vm := .none },
  { cls := 6, slots := #[.null, .int 1, .int 0], vm := .none }]
def classes : Array Class := #[k0, k1, k2, k3, k4, k5, k6, k7, k8, k9, k10, k11]
def interned : List (Array UInt16 × Addr) := []
def slotsUsed : Nat := 9
def theMethod : MethodId := ⟨1, 1⟩
def args0 : Array Value := #[.int 5, .int 7, .int 3]
def aboutOver (below : List Frame) : State where
  vm := { classes := classes, interned := interned.toArray }
  heap := heap
  slotsUsed := slotsUsed
  threads := #[{ frames := .invoking theMethod args0 :: below }]
def below0 : List Frame := [.native { method := ⟨0, 0⟩, args := #[] }]
def about1 : State := aboutOver below0
def p0 : Program := .bare "" "" ""
def e0 : Env := launch0.env 0 0 0
theorem w_frames : about1.frames = Frame.invoking theMethod args0 :: below0 := rfl
set_option maxRecDepth 65536 in
theorem w_args : argsFit about1.vm theMethod args0 = true := by decide +kernel
set_option maxRecDepth 65536 in
theorem w_heap : heapFits about1 = true := by decide +kernel
set_option maxRecDepth 65536 in
theorem w_runnable : about1.curStatus? = some .runnable := by decide +kernel
set_option maxRecDepth 65536 in
theorem w_alone : about1.alone = true := by decide +kernel
set_option maxRecDepth 65536 in
theorem w_named : about1.methodNamed? x = some theMethod := by decide +kernel
set_option maxRecDepth 65536 in
theorem w_hears : about1.hears theMethod below0 = true := by decide +kernel
set_option maxRecDepth 65536 in
theorem w_ripe : about1.ripe theMethod args0 below0 = true := by decide +kernel
theorem w_running : about1.status = .running := rfl
set_option maxRecDepth 65536 in
theorem w_room : about1.hasRoom e0.platform room_1 = true :=
  launch0.hasRoom_least _ room_1 (by decide +kernel) (by decide +kernel) (by decide +kernel) (by decide +kernel) (by decide +kernel) (by decide +kernel)
theorem allAtoms_all (ts : List Jvm.Cond) (a : Array Jvm.Value) (st : Jvm.State) : (allAtoms ts).before a st = ts.all (fun c => c.before a st) := by
  induction ts with
  | nil => rfl
  | cons c t ih =>
    show (Jvm.Cond.and c (allAtoms t)).before a st = _
    rw [Jvm.Cond.before_and, ih, List.all_cons]
def words1 : List Jvm.Cond := Jvm.Cond.code x code maxLocals ret :: tables_1
/-- a 'code' word, met by the world's own term for the bytes: nothing is compared byte by byte -/
theorem code_word {y : MethodName} {bytes : ByteArray} {mx : Nat} {rt : Option FieldType} {a : Array Value} {s : State} {m : MethodId} {meth : Method} {c : Code} (h1 : s.methodNamed? y = some m) (h2 : s.vm.method? m = some meth) (h3 : meth.code = some c) (h4 : c.code = bytes)
    (h5 : (c.maxLocals == mx && c.exceptionTable.isEmpty && decide (c.maxStack ≤ mostOperands) && decide (meth.sig.returnType = rt) && !meth.locks && decide (parseMethodDescriptor y.desc = some meth.sig)) = true) : (Jvm.Cond.code y bytes mx rt).before a s = true := by
  simp only [Bool.and_eq_true, beq_iff_eq, Bool.not_eq_true', decide_eq_true_eq] at h5
  obtain ⟨⟨⟨⟨⟨g1, g2⟩, g3⟩, g4⟩, g5⟩, g6⟩ := h5
  simp [Cond.before, Cond.holds, Cond.value, h1, h2, h3, h4, g1, g2, g3, g4, g5, g6]
def isCode : Jvm.Cond → Bool
  | .code _ _ _ _ => true
  | _ => false
theorem all_split {L : List Jvm.Cond} {P : Jvm.Cond → Bool} (h1 : L.all (fun c => isCode c || P c) = true) (h2 : ∀ c ∈ L.filter isCode, P c = true) : L.all P = true := by
  refine List.all_eq_true.mpr fun c hc => ?_
  have h := List.all_eq_true.mp h1 c hc
  rcases Bool.eq_false_or_eq_true (isCode c) with hi | hi
  · exact h2 c (List.mem_filter.mpr ⟨hc, hi⟩)
  · simpa [hi] using h
set_option maxRecDepth 65536 in
theorem w_c0 : (Jvm.Cond.code x code maxLocals ret).before args0 about1 = true := code_word (m := ⟨1, 1⟩) (meth := k1m1) (c := k1c1) (by decide +kernel) rfl rfl rfl (by decide +kernel)
set_option maxRecDepth 65536 in
theorem w_c1 : (Jvm.Cond.code ({ cls := "com/example/hedge/hedge/Direction", name := "improves", desc := "(DD)Z" } : Jvm.MethodName) prog_7_method_4_code (5 : Nat) (Option.some Jvm.ClassFile.FieldType.boolean)).before args0 about1 = true := code_word (m := ⟨6, 0⟩) (meth := k6m0) (c := k6c0) (by decide +kernel) rfl rfl rfl (by decide +kernel)
set_option maxRecDepth 65536 in
theorem w_c2 : (Jvm.Cond.code ({ cls := "com/example/hedge/hedge/Direction", name := "worst", desc := "()D" } : Jvm.MethodName) prog_7_method_5_code (1 : Nat) (Option.some Jvm.ClassFile.FieldType.double)).before args0 about1 = true := code_word (m := ⟨6, 1⟩) (meth := k6m1) (c := k6c1) (by decide +kernel) rfl rfl rfl (by decide +kernel)
def codes1 : List Jvm.Cond := [Jvm.Cond.code x code maxLocals ret, Jvm.Cond.code ({ cls := "com/example/hedge/hedge/Direction", name := "improves", desc := "(DD)Z" } : Jvm.MethodName) prog_7_method_4_code (5 : Nat) (Option.some Jvm.ClassFile.FieldType.boolean), Jvm.Cond.code ({ cls := "com/example/hedge/hedge/Direction", name := "worst", desc := "()D" } : Jvm.MethodName) prog_7_method_5_code (1 : Nat) (Option.some Jvm.ClassFile.FieldType.double)]
set_option maxRecDepth 65536 in
theorem codes_eq : words1.filter isCode = codes1 := rfl
theorem w_codes : ∀ c ∈ words1.filter isCode, c.before args0 about1 = true := by
  rw [codes_eq]
  intro c hc
  simp only [codes1, List.mem_cons, List.not_mem_nil, or_false] at hc
  rcases hc with rfl | rfl | rfl
  · exact w_c0
  · exact w_c1
  · exact w_c2
set_option maxRecDepth 65536 in
theorem w_t1 : words1.all (fun c => isCode c || c.before args0 about1) = true := by decide +kernel
theorem w_tables : (allAtoms (Jvm.Cond.code x code maxLocals ret :: tables_1)).before args0 about1 = true := by
  rw [allAtoms_all]
  show words1.all (fun c => c.before args0 about1) = true
  refine all_split ?_ w_codes
  rw [w_t1]
set_option maxRecDepth 65536 in
theorem w_case : (Jvm.Cond.and given_1 narrow_1).before args0 about1 = true := by decide +kernel
theorem w_applies : (headSpec (Jvm.Cond.code x code maxLocals ret :: tables_1) room_1).applies x e0.platform about1 = true :=
  (Spec.applies_iff w_frames).mpr ⟨w_running, w_runnable, w_alone, w_named, w_hears, w_ripe, w_room, w_tables⟩
theorem atStart : AtStart classFile x code maxLocals ret World_1 tables_1 room_1 Calls_1 rest_1 Pre_1 launch0 p0 e0 about1 theMethod args0 below0 :=
  ⟨lists_1, trivial, launch0.admits_env _ _ _, launch0.least_env, fairChoices_fair.cas, fairChoices_fair.clock, w_frames, w_args, w_heap, w_applies, trivial, trivial, w_case⟩
end start1
theorem witness_1 : WitnessClaimed_1 := ⟨start1.p0, start1.e0, start1.about1, start1.theMethod, start1.args0, start1.below0, start1.atStart⟩
end Jvm.Pilot.@@N@@
