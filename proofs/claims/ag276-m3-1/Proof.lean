import JvmDerived
import JvmDerived.Pilot.@@N@@Statement
import JvmDerived.Pilot.@@N@@Code
set_option linter.unusedVariables false
set_option linter.unusedSimpArgs false
namespace Jvm.RoadKit
open Sem ClassFile Op Lib Jvm.Stand Jvm.Free Jvm.LawKit
section Own
variable {p : Program} {l : Launch} {e : Env} {R : Room} {s : State} {m : MethodId} {args : Array Value} {below : List Frame} {meth : Method} {c : Code} {T : State} {locs : List Loc} {cells slots : Nat}
theorem own_ni0 {a : Addr} : a ∉ ([] : List Addr) := List.not_mem_nil
theorem own_niS {a b : Addr} {ws : List Addr} (h : a ≠ b) (r : a ∉ ws) : a ∉ b :: ws := fun q => (List.mem_cons.mp q).elim h r
theorem own_all0 {P : Addr → Prop} : ∀ x ∈ ([] : List Addr), P x := fun _ q => nomatch q
theorem own_allS {P : Addr → Prop} {b : Addr} {ws : List Addr} (h : P b) (r : ∀ x ∈ ws, P x) : ∀ x ∈ b :: ws, P x := fun x q => (List.mem_cons.mp q).elim (fun e => e ▸ h) (r x)
theorem own_lremM {g : JFrame} {target : State} (X : Stand p l e R s m args below meth c T locs cells slots) (hx : p.tables.exec = Jvm.exec) (hg : g.method = m) {x y : Int64} {rest : List Value} (hd : decode c.code g.pc = .ok (.lrem, 1)) (hs : g.stack = .long y :: .long x :: rest) (hy : y ≠ 0)
    (hr : Steps p.tables e below (T.setTop { g with pc := g.pc + 1, stack := .long (x % y) :: rest }) target) : Steps p.tables e below (T.setTop g) target :=
  XS.lrem X.here hx hg hd hs hy (by rw [lrem_mod]; exact hr)
end Own
end Jvm.RoadKit
namespace Jvm.OwnFP
open Jvm.FP Jvm.FP.Core Jvm.Free.Fl
/-- a double's worth, in units of the least positive double -/
def zv (x : UInt64) : Int := zval b64 (val64 x)
/-- x is finite and is the number i / D -/
def Ra (i : Int) (D : Nat) (x : UInt64) : Prop := DFin x ∧ zv x * (D : Int) = i * (one64 : Int)
theorem Ra.fin {i : Int} {D : Nat} {x : UInt64} (h : Ra i D x) : Fin64 x := fin64_core.mpr h.1
theorem Ra.nn {i : Int} {D : Nat} {x : UInt64} (h : Ra i D x) : NoNaN64 x := h.fin.noNaN
theorem Ra.ne_nan {i : Int} {D : Nat} {x : UInt64} (h : Ra i D x) : val64 x ≠ .nan := h.1.ne_nan
theorem oz : (0 : Int) < (one64 : Int) := Int.natCast_pos.mpr one64_pos
theorem nan_of {x : UInt64} (h : NoNaN64 x) : val64 x ≠ .nan := (notNaN_iff x).mp (noNaN64_no.mp h)
theorem mulc {a b c : Int} (hc : c ≠ 0) (h : a * c = b * c) : a = b := Int.eq_of_mul_eq_mul_right hc h
theorem al_scale {z D D' i i' o : Int} (h : z * D = i * o) (e : i * D' = i' * D) : z * D' * D = i' * o * D := by
  calc z * D' * D = z * D * D' := by ac_rfl
    _ = i * o * D' := by rw [h]
    _ = i * D' * o := by ac_rfl
    _ = i' * o * D := by rw [e]; ac_rfl
theorem al_mul {x y v D E i j o : Int} (hx : x * D = i * o) (hy : y * E = j * o) (hv : v * (D * E) = i * j * o) : x * y * (D * E) = v * o * (D * E) := by
  calc x * y * (D * E) = (x * D) * (y * E) := by ac_rfl
    _ = (i * o) * (j * o) := by rw [hx, hy]
    _ = (i * j * o) * o := by ac_rfl
    _ = v * (D * E) * o := by rw [hv]
    _ = v * o * (D * E) := by ac_rfl
theorem al_mulr {x y v D E F i j r o : Int} (hx : x * D = i * o) (hy : y * E = j * o) (hv : v * F = r * o) (h : i * j * F = r * (D * E)) : x * y * D * E * F = v * o * D * E * F := by
  calc x * y * D * E * F = (x * D) * (y * E) * F := by ac_rfl
    _ = (i * j * F) * (o * o) := by rw [hx, hy]; ac_rfl
    _ = (r * o) * o * (D * E) := by rw [h]; ac_rfl
    _ = (v * F) * o * (D * E) := by rw [hv]
    _ = v * o * D * E * F := by ac_rfl
theorem al_div {x y v D E F i j r o : Int} (hx : x * D = i * o) (hy : y * E = j * o) (hv : v * F = r * o) (h : i * E * F = r * (j * D)) : x * o * D * E * F = v * y * D * E * F := by
  calc x * o * D * E * F = (x * D) * (o * E * F) := by ac_rfl
    _ = (i * E * F) * (o * o) := by rw [hx]; ac_rfl
    _ = (r * o) * (j * o) * D := by rw [h]; ac_rfl
    _ = (v * F) * (y * E) * D := by rw [hv, hy]
    _ = v * y * D * E * F := by ac_rfl
theorem al_units {V d P Q : Nat} : V * P * d * Q = (V * (d * Q)) * P := by ac_rfl
theorem al_mag {i P D o : Nat} (h : i ≤ P * D) : i * o ≤ P * o * D := by
  calc i * o ≤ P * D * o := Nat.mul_le_mul_right _ h
    _ = P * o * D := by ac_rfl
theorem rep {i : Int} {D k : Nat} (hi : i.natAbs < 9007199254740992) (hD : D = 2 ^ k) (hk : k ≤ 1000) : ∃ V, Ra i D V := by
  have hc : i.natAbs < 2 ^ b64.p := by rw [show (2 : Nat) ^ b64.p = 9007199254740992 by decide +kernel]; exact hi
  have hq2 : b64.qmax = 971 := by decide
  obtain ⟨c', q', h1, h2⟩ := round_exact good_b64 (decide (i < 0)) (c := i.natAbs) (q := -(k : Int)) hc (by rw [qmin_b64]; omega) (by rw [hq2]; omega)
  refine ⟨of64 (round b64 (.fin (decide (i < 0)) i.natAbs (-(k : Int)))), ⟨_, _, _, by rw [val64_of64 (round_fits good_b64 _), h1]⟩, ?_⟩
  unfold zv
  rw [val64_of64 (round_fits good_b64 _), h1]
  show signed (decide (i < 0)) (inUnits c' q' b64.qmin) * _ = _
  rw [h2]
  unfold inUnits
  have e1 : signed (decide (i < 0)) i.natAbs = i := by unfold signed; by_cases h : i < 0 <;> simp [h] <;> omega
  have e2 : (-(k : Int) - b64.qmin).toNat + k = 1074 := by rw [qmin_b64]; omega
  rw [signed_mul, e1, Int.mul_assoc, hD, ← Int.natCast_mul, ← Nat.pow_add, e2]
  rfl
theorem fin_of {x V : UInt64} (hn : val64 x ≠ .nan) (hV : DFin V) (h : zv x = zv V) : DFin x := by
  cases hx : val64 x with
  | nan => exact absurd hx hn
  | fin s c q => exact ⟨s, c, q, hx⟩
  | inf s =>
    exfalso
    have h1 := hV.zval_lt
    unfold zv zval at h
    rw [hx] at h
    have h2 := congrArg Int.natAbs h
    rw [natAbs_signed, natAbs_signed] at h2
    exact absurd h2.symm (Nat.ne_of_lt h1)
theorem Ra.scale {i i' : Int} {D D' : Nat} {x : UInt64} (h : Ra i D x) (hD : 0 < D) (e : i * (D' : Int) = i' * (D : Int)) : Ra i' D' x := by
  exact ⟨h.1, mulc (c := (D : Int)) (by omega) (al_scale h.2 e)⟩
theorem Ra.same {i i' : Int} {D : Nat} {x : UInt64} (h : Ra i D x) (e : i = i') : Ra i' D x := e ▸ h
theorem Ra.add {i j : Int} {D k : Nat} {x y : UInt64} (hx : Ra i D x) (hy : Ra j D y) (h : (i + j).natAbs < 9007199254740992) (hD : D = 2 ^ k) (hk : k ≤ 1000) : Ra (i + j) D (FP.dadd x y) := by
  obtain ⟨V, hV⟩ := rep h hD hk
  have hD0 : (D : Int) ≠ 0 := by rw [hD]; exact Int.ne_of_gt (Int.natCast_pos.mpr (Nat.two_pow_pos k))
  have hs : zval b64 (val64 x) + zval b64 (val64 y) = zval b64 (val64 V) := mulc hD0 (by
    have a := hx.2; have b := hy.2; have c := hV.2
    unfold zv at a b c
    rw [Int.add_mul, a, b, c, Int.add_mul])
  have hz : zv (Core.dadd x y) = zv V := by
    unfold zv
    rw [val64_dadd]
    exact Int.le_antisymm (sum_le good_b64 hx.1 hy.1 (val64_fits x) (val64_fits y) (val64_fits V) hV.ne_nan (Int.le_of_eq hs)) (sum_ge good_b64 hx.1 hy.1 (val64_fits x) (val64_fits y) (val64_fits V) hV.ne_nan (Int.le_of_eq hs.symm))
  exact ⟨fin_of ((notNaN_iff _).mp (dadd_out hx.1.notNaN hy.1)) hV.1 hz, by show zv (Core.dadd x y) * _ = _; rw [hz, hV.2]⟩
theorem fin_negate {x : UInt64} (h : DFin x) : ∃ s c q, negate (val64 x) = .fin s c q := by
  obtain ⟨s, c, q, h⟩ := h; exact ⟨!s, c, q, by rw [h]; rfl⟩
theorem Ra.sub {i j : Int} {D k : Nat} {x y : UInt64} (hx : Ra i D x) (hy : Ra j D y) (h : (i - j).natAbs < 9007199254740992) (hD : D = 2 ^ k) (hk : k ≤ 1000) : Ra (i - j) D (FP.dsub x y) := by
  obtain ⟨V, hV⟩ := rep h hD hk
  have hD0 : (D : Int) ≠ 0 := by rw [hD]; exact Int.ne_of_gt (Int.natCast_pos.mpr (Nat.two_pow_pos k))
  have hs : zval b64 (val64 x) + zval b64 (negate (val64 y)) = zval b64 (val64 V) := mulc hD0 (by
    have a := hx.2; have b := hy.2; have c := hV.2
    unfold zv at a b c
    rw [zval_negate, Int.add_mul, Int.neg_mul, a, b, c, Int.sub_mul]
    omega)
  have hz : zv (Core.dsub x y) = zv V := by
    unfold zv
    rw [val64_dsub]
    exact Int.le_antisymm (sum_le good_b64 hx.1 (fin_negate hy.1) (val64_fits x) (negate_fits (val64_fits y)) (val64_fits V) hV.ne_nan (Int.le_of_eq hs)) (sum_ge good_b64 hx.1 (fin_negate hy.1) (val64_fits x) (negate_fits (val64_fits y)) (val64_fits V) hV.ne_nan (Int.le_of_eq hs.symm))
  exact ⟨fin_of ((notNaN_iff _).mp (dsub_out hx.1.notNaN hy.1)) hV.1 hz, by show zv (Core.dsub x y) * _ = _; rw [hz, hV.2]⟩
theorem qq : (b64.qmin - 2 * b64.qmin).toNat = (-b64.qmin).toNat := by rw [qmin_b64]; decide
/-- a product, held against a double -/
theorem mul_le {x y V : UInt64} (hx : DFin x) (hy : DFin y) (hV : val64 V ≠ .nan) (h : zv x * zv y ≤ zv V * (one64 : Int)) : zv (Core.dmul x y) ≤ zv V := by
  obtain ⟨s, c, q, ex⟩ := hx
  obtain ⟨t, d, r, ey⟩ := hy
  have fx := val64_fits x; have fy := val64_fits y
  rw [ex] at fx; rw [ey] at fy
  obtain ⟨p1, p2, p3⟩ := product_units fx fy
  unfold zv at h ⊢
  rw [val64_dmul, ex, ey, p1]
  rw [ex, ey] at h
  exact zval_round_le good_b64 (val64_fits V) hV (e0 := 2 * b64.qmin) (by rw [qmin_b64]; decide) p2 (by rw [p3, signed_xor, qq, pow_qmin64]; exact h)
theorem mul_ge {x y V : UInt64} (hx : DFin x) (hy : DFin y) (hV : val64 V ≠ .nan) (h : zv V * (one64 : Int) ≤ zv x * zv y) : zv V ≤ zv (Core.dmul x y) := by
  obtain ⟨s, c, q, ex⟩ := hx
  obtain ⟨t, d, r, ey⟩ := hy
  have fx := val64_fits x; have fy := val64_fits y
  rw [ex] at fx; rw [ey] at fy
  obtain ⟨p1, p2, p3⟩ := product_units fx fy
  unfold zv at h ⊢
  rw [val64_dmul, ex, ey, p1]
  rw [ex, ey] at h
  exact zval_round_ge good_b64 (val64_fits V) hV (e0 := 2 * b64.qmin) (by rw [qmin_b64]; decide) p2 (by rw [p3, signed_xor, qq, pow_qmin64]; exact h)
/-- the product's worth, where it is a double's -/
theorem mul_zv {x y V : UInt64} (hx : DFin x) (hy : DFin y) (hV : val64 V ≠ .nan) (h : zv x * zv y = zv V * (one64 : Int)) : zv (Core.dmul x y) = zv V :=
  Int.le_antisymm (mul_le hx hy hV (Int.le_of_eq h)) (mul_ge hx hy hV (Int.le_of_eq h.symm))
theorem Ra.mul {i j : Int} {D E k : Nat} {x y : UInt64} (hx : Ra i D x) (hy : Ra j E y) (h : (i * j).natAbs < 9007199254740992) (hD : D * E = 2 ^ k) (hk : k ≤ 1000) : Ra (i * j) (D * E) (FP.dmul x y) := by
  obtain ⟨V, hV⟩ := rep h hD hk
  have hD0 : ((D * E : Nat) : Int) ≠ 0 := by rw [hD]; exact Int.ne_of_gt (Int.natCast_pos.mpr (Nat.two_pow_pos k))
  have hv := hV.2
  rw [Int.natCast_mul] at hv hD0
  have hs : zv x * zv y = zv V * (one64 : Int) := mulc hD0 (al_mul hx.2 hy.2 hv)
  have hz : zv (Core.dmul x y) = zv V := mul_zv hx.1 hy.1 hV.ne_nan hs
  exact ⟨fin_of ((notNaN_iff _).mp (dmul_out hx.1 hy.1)) hV.1 hz, by show zv (Core.dmul x y) * _ = _; rw [hz, hV.2]⟩
/-- a product written in its least terms -/
theorem Ra.mulr {i j r : Int} {D E F k : Nat} {x y : UInt64} (hx : Ra i D x) (hy : Ra j E y) (hD : 0 < D) (hE : 0 < E) (hr : r.natAbs < 9007199254740992) (hF : F = 2 ^ k) (hk : k ≤ 1000) (h : i * j * (F : Int) = r * ((D : Int) * (E : Int))) : Ra r F (FP.dmul x y) := by
  obtain ⟨V, hV⟩ := rep hr hF hk
  have hF0 : (F : Int) ≠ 0 := by rw [hF]; exact Int.ne_of_gt (Int.natCast_pos.mpr (Nat.two_pow_pos k))
  have hs : zv x * zv y = zv V * (one64 : Int) := by
    exact mulc (c := (D : Int)) (by omega) (mulc (c := (E : Int)) (by omega) (mulc hF0 (al_mulr hx.2 hy.2 hV.2 h)))
  have hz : zv (Core.dmul x y) = zv V := mul_zv hx.1 hy.1 hV.ne_nan hs
  exact ⟨fin_of ((notNaN_iff _).mp (dmul_out hx.1 hy.1)) hV.1 hz, by show zv (Core.dmul x y) * _ = _; rw [hz, hV.2]⟩
theorem zv_abs (x : UInt64) : (zv x).natAbs = zmag b64 (val64 x) := by unfold zv zval; rw [natAbs_signed]
/-- the quotient's parts -/
theorem div_parts {x y : UInt64} (hx : DFin x) (hy : DFin y) (hz : zv y ≠ 0) : ∃ s t c d q r, val64 x = .fin s c q ∧ val64 y = .fin t d r ∧ 0 < d ∧ b64.qmin ≤ q ∧ b64.qmin ≤ r ∧ zmag b64 (val64 x) = c * 2 ^ (q - b64.qmin).toNat ∧ zmag b64 (val64 y) = d * 2 ^ (r - b64.qmin).toNat ∧ val64 (Core.ddiv x y) = roundRatio b64 (s != t) c d (q - r) := by
  obtain ⟨s, c, q, ex⟩ := hx
  obtain ⟨t, d, r, ey⟩ := hy
  have fx := val64_fits x; have fy := val64_fits y
  rw [ex] at fx; rw [ey] at fy
  have hd : d ≠ 0 := fun h => hz (by unfold zv; rw [ey, h]; simp [zval, zmag, sgn, inUnits, signed])
  refine ⟨s, t, c, d, q, r, ex, ey, Nat.pos_of_ne_zero hd, fx.2.1, fy.2.1, by rw [ex]; rfl, by rw [ey]; rfl, ?_⟩
  rw [val64_ddiv, ex, ey]
  show (if d = 0 then _ else roundRatio b64 (s != t) c d (q - r)) = _
  rw [if_neg hd]
theorem div_units {c d V : Nat} {q r e : Int} (hq : b64.qmin ≤ q) (hr : b64.qmin ≤ r) (h1 : e ≤ b64.qmin) (h2 : e ≤ q - r) :
    inUnits c (q - r) e * 2 ^ (r - b64.qmin).toNat = (c * 2 ^ (q - b64.qmin).toNat * one64) * 2 ^ (b64.qmin - e).toNat ∧
      V * 2 ^ (b64.qmin - e).toNat * d * 2 ^ (r - b64.qmin).toNat = (V * (d * 2 ^ (r - b64.qmin).toNat)) * 2 ^ (b64.qmin - e).toNat := by
  refine ⟨?_, al_units⟩
  have hn : b64.qmin < 0 := by rw [qmin_b64]; decide
  unfold inUnits
  rw [← pow_qmin64, Nat.mul_assoc, Nat.mul_assoc, Nat.mul_assoc, ← Nat.pow_add, ← Nat.pow_add, ← Nat.pow_add]
  congr 2
  omega
theorem div_mag_le {x y V : UInt64} (hx : DFin x) (hy : DFin y) (hz : zv y ≠ 0) (hV : val64 V ≠ .nan) (h : (zv x).natAbs * one64 ≤ (zv V).natAbs * (zv y).natAbs) : (zv (Core.ddiv x y)).natAbs ≤ (zv V).natAbs := by
  obtain ⟨s, t, c, d, q, r, ex, ey, hd, hq, hr, mx, my, hv⟩ := div_parts hx hy hz
  rw [zv_abs, zv_abs, hv]
  rw [zv_abs, zv_abs, zv_abs, mx, my] at h
  refine zmag_roundRatio_le good_b64 hd (val64_fits V) hV (e0 := min b64.qmin (q - r)) (by omega) (by omega) ?_
  obtain ⟨u1, u2⟩ := div_units (c := c) (d := d) (V := zmag b64 (val64 V)) hq hr (e := min b64.qmin (q - r)) (by omega) (by omega)
  refine Nat.le_of_mul_le_mul_right (c := 2 ^ (r - b64.qmin).toNat) ?_ (Nat.two_pow_pos _)
  rw [u1, u2]
  exact Nat.mul_le_mul_right _ h
theorem div_mag_ge {x y V : UInt64} (hx : DFin x) (hy : DFin y) (hz : zv y ≠ 0) (h : (zv V).natAbs * (zv y).natAbs ≤ (zv x).natAbs * one64) : (zv V).natAbs ≤ (zv (Core.ddiv x y)).natAbs := by
  obtain ⟨s, t, c, d, q, r, ex, ey, hd, hq, hr, mx, my, hv⟩ := div_parts hx hy hz
  rw [zv_abs, zv_abs, hv]
  rw [zv_abs, zv_abs, zv_abs, mx, my] at h
  refine zmag_roundRatio_ge good_b64 hd (val64_fits V) (e0 := min b64.qmin (q - r)) (by omega) (by omega) ?_
  obtain ⟨u1, u2⟩ := div_units (c := c) (d := d) (V := zmag b64 (val64 V)) hq hr (e := min b64.qmin (q - r)) (by omega) (by omega)
  refine Nat.le_of_mul_le_mul_right (c := 2 ^ (r - b64.qmin).toNat) ?_ (Nat.two_pow_pos _)
  rw [u1, u2]
  exact Nat.mul_le_mul_right _ h
theorem zv_sgn (x : UInt64) : zv x = signed (sgn (val64 x)) (zv x).natAbs := by rw [zv_abs]; rfl
theorem div_sgn {x y : UInt64} (hx : DFin x) (hy : DFin y) (hz : zv y ≠ 0) : sgn (val64 (Core.ddiv x y)) = (sgn (val64 x) != sgn (val64 y)) := by
  obtain ⟨s, t, c, d, q, r, ex, ey, -, -, -, -, -, hv⟩ := div_parts hx hy hz
  rw [hv, sgn_roundRatio, ex, ey]; rfl
theorem sgn_pos {x : UInt64} (h : 0 < zv x) : sgn (val64 x) = false := by
  rw [zv_sgn] at h
  cases hs : sgn (val64 x) with
  | false => rfl
  | true => rw [hs] at h; simp [signed] at h; omega
theorem div_nonneg {x y : UInt64} (hx : DFin x) (hy : DFin y) (h1 : 0 < zv x) (h2 : 0 < zv y) : zv (Core.ddiv x y) = ((zv (Core.ddiv x y)).natAbs : Int) := by
  have h := div_sgn hx hy (Int.ne_of_gt h2)
  rw [sgn_pos h1, sgn_pos h2] at h
  rw [zv_sgn (Core.ddiv x y), h]; simp [signed]
theorem div_ge {x y V : UInt64} (hx : DFin x) (hy : DFin y) (h1 : 0 < zv x) (h2 : 0 < zv y) (hV : 0 ≤ zv V) (h : zv V * zv y ≤ zv x * (one64 : Int)) : zv V ≤ zv (Core.ddiv x y) := by
  have k : (zv V).natAbs * (zv y).natAbs ≤ (zv x).natAbs * one64 := by
    have e1 : ((zv V).natAbs : Int) = zv V := by omega
    have e2 : ((zv y).natAbs : Int) = zv y := by omega
    have e3 : ((zv x).natAbs : Int) = zv x := by omega
    refine Int.ofNat_le.mp ?_
    rw [Int.natCast_mul, Int.natCast_mul, e1, e2, e3]; exact h
  have := div_mag_ge hx hy (Int.ne_of_gt h2) k
  rw [div_nonneg hx hy h1 h2]; omega
theorem div_le {x y V : UInt64} (hx : DFin x) (hy : DFin y) (h1 : 0 < zv x) (h2 : 0 < zv y) (hn : val64 V ≠ .nan) (hV : 0 ≤ zv V) (h : zv x * (one64 : Int) ≤ zv V * zv y) : zv (Core.ddiv x y) ≤ zv V := by
  have k : (zv x).natAbs * one64 ≤ (zv V).natAbs * (zv y).natAbs := by
    have e1 : ((zv V).natAbs : Int) = zv V := by omega
    have e2 : ((zv y).natAbs : Int) = zv y := by omega
    have e3 : ((zv x).natAbs : Int) = zv x := by omega
    refine Int.ofNat_le.mp ?_
    rw [Int.natCast_mul, Int.natCast_mul, e1, e2, e3]; exact h
  have := div_mag_le hx hy (Int.ne_of_gt h2) hn k
  rw [div_nonneg hx hy h1 h2]; omega
theorem signed_inj {s t : Bool} {n : Nat} (hn : n ≠ 0) (h : signed s n = signed t n) : s = t := by
  cases s <;> cases t <;> simp [signed] at h ⊢ <;> omega
theorem xor_back {s t v : Bool} (h : s = (v != t)) : (s != t) = v := by cases s <;> cases t <;> cases v <;> simp_all
/-- the quotient's worth, where it is a double's -/
theorem div_zv {x y V : UInt64} (hx : DFin x) (hy : DFin y) (hz : zv y ≠ 0) (hV : DFin V) (h : zv x * (one64 : Int) = zv V * zv y) : zv (Core.ddiv x y) = zv V := by
  have ha : (zv x).natAbs * one64 = (zv V).natAbs * (zv y).natAbs := by
    have := congrArg Int.natAbs h
    rwa [Int.natAbs_mul, Int.natAbs_mul, Int.natAbs_natCast] at this
  have hm : (zv (Core.ddiv x y)).natAbs = (zv V).natAbs := Nat.le_antisymm (div_mag_le hx hy hz hV.ne_nan (Nat.le_of_eq ha)) (div_mag_ge hx hy hz (Nat.le_of_eq ha.symm))
  rw [zv_sgn (Core.ddiv x y), hm, div_sgn hx hy hz]
  by_cases h0 : (zv V).natAbs = 0
  · rw [h0, Int.natAbs_eq_zero.mp h0]; exact signed_zero _
  · have k : signed (sgn (val64 x)) ((zv x).natAbs * one64) = zv x * (one64 : Int) := by rw [signed_mul, ← zv_sgn]
    rw [ha] at k
    have k2 : signed (sgn (val64 V) != sgn (val64 y)) ((zv V).natAbs * (zv y).natAbs) = zv V * zv y := by rw [signed_xor, ← zv_sgn, ← zv_sgn]
    have e := xor_back (signed_inj (n := (zv V).natAbs * (zv y).natAbs) (Nat.mul_ne_zero h0 (fun q => hz (Int.natAbs_eq_zero.mp q))) (k.trans (h.trans k2.symm)))
    rw [e, ← zv_sgn]
theorem Ra.div {i j r : Int} {D E F k : Nat} {x y : UInt64} (hx : Ra i D x) (hy : Ra j E y) (hD : 0 < D) (hE : 0 < E) (hj : j ≠ 0) (hr : r.natAbs < 9007199254740992) (hF : F = 2 ^ k) (hk : k ≤ 1000) (h : i * (E : Int) * (F : Int) = r * (j * (D : Int))) : Ra r F (FP.ddiv x y) := by
  obtain ⟨V, hV⟩ := rep hr hF hk
  have hF0 : (F : Int) ≠ 0 := by rw [hF]; exact Int.ne_of_gt (Int.natCast_pos.mpr (Nat.two_pow_pos k))
  have hy0 : zv y ≠ 0 := fun q => by
    have := hy.2; rw [q, Int.zero_mul] at this
    exact (Int.mul_ne_zero hj (Int.ne_of_gt oz)) this.symm
  have hs : zv x * (one64 : Int) = zv V * zv y := by
    exact mulc (c := (D : Int)) (by omega) (mulc (c := (E : Int)) (by omega) (mulc hF0 (al_div hx.2 hy.2 hV.2 h)))
  have hz : zv (Core.ddiv x y) = zv V := div_zv hx.1 hy.1 hy0 hV.1 hs
  have hyz : ¬ DZero y := fun q => hy0 (by unfold zv; exact DZero.zval q)
  exact ⟨fin_of ((notNaN_iff _).mp (ddiv_out hx.1.notNaN hy.1 hyz)) hV.1 hz, by show zv (Core.ddiv x y) * _ = _; rw [hz, hV.2]⟩
/-- two quotients of one ratio are of one worth -/
theorem div_alike {x y x' y' : UInt64} (hx : DFin x) (hy : DFin y) (hx' : DFin x') (hy' : DFin y') (hz : zv y ≠ 0) (hz' : zv y' ≠ 0) (h : zv x * zv y' = zv x' * zv y) : zv (Core.ddiv x y) = zv (Core.ddiv x' y') := by
  have ha : (zv x).natAbs * (zv y').natAbs = (zv x').natAbs * (zv y).natAbs := by
    have := congrArg Int.natAbs h
    rwa [Int.natAbs_mul, Int.natAbs_mul] at this
  have hsg := div_sgn hx hy hz
  have hsg' := div_sgn hx' hy' hz'
  obtain ⟨s, t, c, d, q, r, ex, ey, hd, hq, hr, mx, my, hv⟩ := div_parts hx hy hz
  obtain ⟨s', t', c', d', q', r', ex', ey', hd', hq', hr', mx', my', hv'⟩ := div_parts hx' hy' hz'
  have hm : (zv (Core.ddiv x y)).natAbs = (zv (Core.ddiv x' y')).natAbs := by
    rw [zv_abs, zv_abs, zv_abs, zv_abs, mx, my, mx', my'] at ha
    rw [zv_abs, zv_abs, hv, hv']
    have e : roundRatio b64 (s != t) c d (q - r) = roundRatio b64 (s != t) c' d' (q' - r') := by
      refine roundRatio_congr hd hd' ?_
      have g1 : ∃ T, (q - b64.qmin).toNat + (r' - b64.qmin).toNat = (q - r - (q' - r')).toNat + T ∧ (q' - b64.qmin).toNat + (r - b64.qmin).toNat = (q' - r' - (q - r)).toNat + T := ⟨(min ((q - b64.qmin) + (r' - b64.qmin)) ((q' - b64.qmin) + (r - b64.qmin))).toNat, by omega, by omega⟩
      obtain ⟨T, g1, g2⟩ := g1
      refine Nat.eq_of_mul_eq_mul_right (Nat.two_pow_pos T) ?_
      calc c * d' * 2 ^ (q - r - (q' - r')).toNat * 2 ^ T = (c * 2 ^ (q - b64.qmin).toNat) * (d' * 2 ^ (r' - b64.qmin).toNat) := by rw [Nat.mul_assoc, ← Nat.pow_add, ← g1, Nat.pow_add]; ac_rfl
        _ = (c' * 2 ^ (q' - b64.qmin).toNat) * (d * 2 ^ (r - b64.qmin).toNat) := ha
        _ = c' * d * 2 ^ (q' - r' - (q - r)).toNat * 2 ^ T := by rw [Nat.mul_assoc (c' * d), ← Nat.pow_add, ← g2, Nat.pow_add]; ac_rfl
    rw [e]
    rcases roundRatio_cases b64 (s != t) c' d' (q' - r') with ⟨a, b, g⟩ | g <;> rcases roundRatio_cases b64 (s' != t') c' d' (q' - r') with ⟨a', b', g'⟩ | g'
    all_goals first
      | (have := negate_roundRatio b64 (s' != t') c' d' (q' - r')
         by_cases w : (s != t) = (s' != t')
         · rw [w]
         · rw [show (s != t) = !(s' != t') by cases s <;> cases t <;> cases s' <;> cases t' <;> simp_all, ← this]
           rw [g']; rfl)
  rw [zv_sgn (Core.ddiv x y), zv_sgn (Core.ddiv x' y'), hm, hsg, hsg']
  by_cases h0 : (zv (Core.ddiv x' y')).natAbs = 0
  · rw [h0, signed_zero, signed_zero]
  · by_cases hx0 : (zv x').natAbs = 0
    · exfalso; apply h0
      have := div_mag_le (V := (0 : UInt64)) hx' hy' hz' (by rw [val64_zero]; exact Datum.noConfusion) (by rw [hx0, Nat.zero_mul]; exact Nat.zero_le _)
      have z0 : zv 0 = 0 := zval64_zero
      rw [z0] at this; simpa using this
    · congr 1
      have hy1 : (zv y).natAbs ≠ 0 := fun q => hz (Int.natAbs_eq_zero.mp q)
      have k : signed (sgn (val64 x) != sgn (val64 y')) ((zv x').natAbs * (zv y).natAbs) = signed (sgn (val64 x') != sgn (val64 y)) ((zv x').natAbs * (zv y).natAbs) := by
        rw [← ha, signed_xor, ha, signed_xor, ← zv_sgn, ← zv_sgn, ← zv_sgn, ← zv_sgn]; exact h
      have k2 := signed_inj (Nat.mul_ne_zero hx0 hy1) k
      revert k2
      generalize sgn (val64 x) = a; generalize sgn (val64 y) = b; generalize sgn (val64 x') = a'; generalize sgn (val64 y') = b'
      cases a <;> cases b <;> cases a' <;> cases b' <;> simp
/-- comparisons -/
theorem cv_lt {x y : UInt64} (nx : val64 x ≠ .nan) (ny : val64 y ≠ .nan) (h : zv x < zv y) (o : Jvm.ClassFile.CmpOp) : Jvm.Op.cmpValue (FP.dcmp x y) o = -1 := by
  rw [show FP.dcmp x y = some .lt from dcmp_lt.mpr ⟨nx, ny, h⟩]; cases o <;> rfl
theorem cv_eq {x y : UInt64} (nx : val64 x ≠ .nan) (ny : val64 y ≠ .nan) (h : zv x = zv y) (o : Jvm.ClassFile.CmpOp) : Jvm.Op.cmpValue (FP.dcmp x y) o = 0 := by
  rw [show FP.dcmp x y = some .eq from dcmp_eq.mpr ⟨nx, ny, h⟩]; cases o <;> rfl
theorem cv_gt {x y : UInt64} (nx : val64 x ≠ .nan) (ny : val64 y ≠ .nan) (h : zv y < zv x) (o : Jvm.ClassFile.CmpOp) : Jvm.Op.cmpValue (FP.dcmp x y) o = 1 := by
  rw [show FP.dcmp x y = some .gt from dcmp_gt.mpr ⟨nx, ny, h⟩]; cases o <;> rfl
theorem cv_le {x y : UInt64} (nx : val64 x ≠ .nan) (ny : val64 y ≠ .nan) (h : zv x ≤ zv y) (o : Jvm.ClassFile.CmpOp) : ¬ (0 : Int32) < Jvm.Op.cmpValue (FP.dcmp x y) o := by
  rcases Int.lt_or_eq_of_le h with q | q
  · rw [cv_lt nx ny q]; decide
  · rw [cv_eq nx ny q]; decide
theorem cv_ge {x y : UInt64} (nx : val64 x ≠ .nan) (ny : val64 y ≠ .nan) (h : zv y ≤ zv x) (o : Jvm.ClassFile.CmpOp) : ¬ Jvm.Op.cmpValue (FP.dcmp x y) o < (0 : Int32) := by
  rcases Int.lt_or_eq_of_le h with q | q
  · rw [cv_gt nx ny q]; decide
  · rw [cv_eq nx ny q.symm]; decide
theorem cv_lt' {x y : UInt64} (nx : val64 x ≠ .nan) (ny : val64 y ≠ .nan) (h : zv x < zv y) (o : Jvm.ClassFile.CmpOp) : Jvm.Op.cmpValue (FP.dcmp x y) o < (0 : Int32) := by rw [cv_lt nx ny h]; decide
theorem cv_gt' {x y : UInt64} (nx : val64 x ≠ .nan) (ny : val64 y ≠ .nan) (h : zv y < zv x) (o : Jvm.ClassFile.CmpOp) : (0 : Int32) < Jvm.Op.cmpValue (FP.dcmp x y) o := by rw [cv_gt nx ny h]; decide
theorem zv_lt {i j : Int} {D : Nat} {x y : UInt64} (hx : Ra i D x) (hy : Ra j D y) (hD : 0 < D) (h : i < j) : zv x < zv y := by
  refine Int.lt_of_mul_lt_mul_right (a := (D : Int)) ?_ (by omega)
  rw [hx.2, hy.2]; exact Int.mul_lt_mul_of_pos_right h oz
theorem zv_eq {i j : Int} {D : Nat} {x y : UInt64} (hx : Ra i D x) (hy : Ra j D y) (hD : 0 < D) (h : i = j) : zv x = zv y :=
  mulc (c := (D : Int)) (by omega) (by rw [hx.2, hy.2, h])
theorem Ra.lt {i j : Int} {D : Nat} {x y : UInt64} (hx : Ra i D x) (hy : Ra j D y) (hD : 0 < D) (h : i < j) (o : Jvm.ClassFile.CmpOp) : Jvm.Op.cmpValue (FP.dcmp x y) o = -1 := cv_lt hx.ne_nan hy.ne_nan (zv_lt hx hy hD h) o
theorem Ra.gt {i j : Int} {D : Nat} {x y : UInt64} (hx : Ra i D x) (hy : Ra j D y) (hD : 0 < D) (h : j < i) (o : Jvm.ClassFile.CmpOp) : Jvm.Op.cmpValue (FP.dcmp x y) o = 1 := cv_gt hx.ne_nan hy.ne_nan (zv_lt hy hx hD h) o
theorem Ra.eq {i j : Int} {D : Nat} {x y : UInt64} (hx : Ra i D x) (hy : Ra j D y) (hD : 0 < D) (h : i = j) (o : Jvm.ClassFile.CmpOp) : Jvm.Op.cmpValue (FP.dcmp x y) o = 0 := cv_eq hx.ne_nan hy.ne_nan (zv_eq hx hy hD h) o
theorem zv_le {i j : Int} {D : Nat} {x y : UInt64} (hx : Ra i D x) (hy : Ra j D y) (hD : 0 < D) (h : i ≤ j) : zv x ≤ zv y := by
  rcases Int.lt_or_eq_of_le h with q | q
  · exact Int.le_of_lt (zv_lt hx hy hD q)
  · exact Int.le_of_eq (zv_eq hx hy hD q)
theorem Ra.le {i j : Int} {D : Nat} {x y : UInt64} (hx : Ra i D x) (hy : Ra j D y) (hD : 0 < D) (h : i ≤ j) (o : Jvm.ClassFile.CmpOp) : ¬ (0 : Int32) < Jvm.Op.cmpValue (FP.dcmp x y) o := cv_le hx.ne_nan hy.ne_nan (zv_le hx hy hD h) o
theorem Ra.ge {i j : Int} {D : Nat} {x y : UInt64} (hx : Ra i D x) (hy : Ra j D y) (hD : 0 < D) (h : j ≤ i) (o : Jvm.ClassFile.CmpOp) : ¬ Jvm.Op.cmpValue (FP.dcmp x y) o < (0 : Int32) := cv_ge hx.ne_nan hy.ne_nan (zv_le hy hx hD h) o
theorem Ra.lt' {i j : Int} {D : Nat} {x y : UInt64} (hx : Ra i D x) (hy : Ra j D y) (hD : 0 < D) (h : i < j) (o : Jvm.ClassFile.CmpOp) : Jvm.Op.cmpValue (FP.dcmp x y) o < (0 : Int32) := cv_lt' hx.ne_nan hy.ne_nan (zv_lt hx hy hD h) o
theorem Ra.gt' {i j : Int} {D : Nat} {x y : UInt64} (hx : Ra i D x) (hy : Ra j D y) (hD : 0 < D) (h : j < i) (o : Jvm.ClassFile.CmpOp) : (0 : Int32) < Jvm.Op.cmpValue (FP.dcmp x y) o := cv_gt' hx.ne_nan hy.ne_nan (zv_lt hy hx hD h) o
theorem Ra.of_int {i : Int} {x : UInt64} (h : DInt i x) (hf : DFin x) : Ra i 1 x := ⟨hf, by show zval b64 (val64 x) * _ = _; rw [DInt_zval h]; show _ * (1 : Int) = _; rw [Int.mul_one]⟩
theorem Ra.i2d (a : Int32) : Ra a.toInt 1 (FP.i2d a) := Ra.of_int (i2d_int a) (Core.i2d_fin a)
theorem Ra.l2d {a : Int64} (h : a.toInt.natAbs ≤ 9007199254740992) : Ra a.toInt 1 (FP.l2d a) := Ra.of_int (l2d_int h) (Core.l2d_fin a)
/-- a written constant -/
theorem Ra.lit {x : UInt64} {s : Bool} {c D n : Nat} {q i : Int} {k : Nat} (h : val64 x = .fin s c q) (hD : D = 2 ^ k) (hq : q = -((k + n : Nat) : Int)) (hk : k + n ≤ 1074) (e : signed s c = i * ((2 ^ n : Nat) : Int)) : Ra i D x := by
  refine ⟨⟨s, c, q, h⟩, ?_⟩
  unfold zv
  rw [h]
  show signed s (inUnits c q b64.qmin) * _ = _
  unfold inUnits
  have e2 : n + (q - b64.qmin).toNat + k = 1074 := by rw [qmin_b64]; omega
  rw [signed_mul, e, hD, Int.mul_assoc, Int.mul_assoc, ← Int.natCast_mul, ← Int.natCast_mul, ← Nat.pow_add, ← Nat.pow_add, ← Nat.add_assoc, e2]
  rfl
theorem zv_neg (x : UInt64) : zv (FP.dneg x) = -zv x := by unfold zv; rw [Jvm.FP.val64_dneg, zval_negate]
theorem Ra.neg {i : Int} {D : Nat} {x : UInt64} (h : Ra i D x) : Ra (-i) D (FP.dneg x) := by
  obtain ⟨⟨s, c, q, ex⟩, e⟩ := h
  exact ⟨⟨!s, c, q, by rw [Jvm.FP.val64_dneg, ex]; rfl⟩, by rw [zv_neg, Int.neg_mul, e, Int.neg_mul]⟩
/-- exact products of longs -/
theorem lmul_of {x y : Int64} {a b : Int} (hx : x.toInt = a) (hy : y.toInt = b) (h1 : -9223372036854775808 ≤ a * b) (h2 : a * b < 9223372036854775808) : (x * y).toInt = a * b := by
  rw [int64_mul (by rw [hx, hy]; exact h1) (by rw [hx, hy]; exact h2), hx, hy]
theorem ladd_of {x y : Int64} {a b : Int} (hx : x.toInt = a) (hy : y.toInt = b) (h1 : -9223372036854775808 ≤ a + b) (h2 : a + b < 9223372036854775808) : (x + y).toInt = a + b := by
  rw [int64_add (by rw [hx, hy]; exact h1) (by rw [hx, hy]; exact h2), hx, hy]
theorem lsub_of {x y : Int64} {a b : Int} (hx : x.toInt = a) (hy : y.toInt = b) (h1 : -9223372036854775808 ≤ a - b) (h2 : a - b < 9223372036854775808) : (x - y).toInt = a - b := by
  rw [int64_sub (by rw [hx, hy]; exact h1) (by rw [hx, hy]; exact h2), hx, hy]
theorem lneg_of {x : Int64} {a : Int} (hx : x.toInt = a) (h1 : -9223372036854775808 < a) : (-x).toInt = -a := by
  rw [int64_neg (by rw [hx]; exact h1), hx]
theorem i2l_of {x : Int32} {a : Int} (hx : x.toInt = a) : x.toInt64.toInt = a := by rw [Int32.toInt_toInt64, hx]
theorem fin_of_le {x V : UInt64} (hn : val64 x ≠ .nan) (hV : DFin V) (h : (zv x).natAbs ≤ (zv V).natAbs) : DFin x := by
  cases hx : val64 x with
  | nan => exact absurd hx hn
  | fin s c q => exact ⟨s, c, q, hx⟩
  | inf s =>
    exfalso
    have h1 := hV.zval_lt
    rw [zv_abs, zv_abs, hx] at h
    exact absurd (Nat.lt_of_le_of_lt h h1) (Nat.lt_irrefl _)
/-- a bound on the worth bounds the bits -/
theorem mag_of {x : UInt64} {n : Nat} (hx : DFin x) (h : (zv x).natAbs ≤ 2 ^ n * one64) : Mag64 (n + 1024) x := by
  have z := zmag_bits hx.ne_nan
  rw [zv_abs, z] at h
  have hs : unitsOf b64 ((n + 1024) * b64.tails) = b64.tails * 2 ^ (n + 1024 - 1) := unitsOf_start (by omega)
  have ho : 2 ^ n * one64 < b64.tails * 2 ^ (n + 1024 - 1) := by
    rw [tails_b64, ← pow_qmin64, ← Nat.pow_add, ← Nat.pow_add, qmin_b64]
    exact Nat.pow_lt_pow_right (by decide) (by omega)
  have hl : unitsOf b64 (x.toNat % 2 ^ 63) < unitsOf b64 ((n + 1024) * b64.tails) := by rw [hs]; exact Nat.lt_of_le_of_lt h ho
  have hb := unitsOf_lt_iff.mp hl
  rw [tails_b64] at hb
  unfold Mag64
  exact hb
theorem Ra.mag {i : Int} {D n : Nat} {x : UInt64} (h : Ra i D x) (hD : 0 < D) (hi : i.natAbs ≤ 2 ^ n * D) : Mag64 (n + 1024) x := by
  refine mag_of h.1 (Nat.le_of_mul_le_mul_right (c := D) ?_ hD)
  have e := congrArg Int.natAbs h.2
  rw [Int.natAbs_mul, Int.natAbs_mul, Int.natAbs_natCast, Int.natAbs_natCast] at e
  rw [e]
  exact al_mag hi
theorem big_of {x : UInt64} (hx : DFin x) (h : one64 ≤ (zv x).natAbs) : Jvm.RoadKit.Big64 1023 x := by
  have z := zmag_bits hx.ne_nan
  rw [zv_abs, z] at h
  have hs : unitsOf b64 (1023 * b64.tails) = b64.tails * 2 ^ (1023 - 1) := unitsOf_start (by decide)
  have ho : b64.tails * 2 ^ (1023 - 1) = one64 := by rw [tails_b64, ← pow_qmin64, ← Nat.pow_add, qmin_b64]; rfl
  have hl : unitsOf b64 (1023 * b64.tails) ≤ unitsOf b64 (x.toNat % 2 ^ 63) := by rw [hs, ho]; exact h
  have hb := unitsOf_le_iff.mp hl
  rw [tails_b64] at hb
  have hf := (fin_bits x).mp hx
  exact ⟨hb, by omega⟩
theorem Ra.big {i : Int} {x : UInt64} (h : Ra i 1 x) (hi : i ≠ 0) : Jvm.RoadKit.Big64 1023 x := by
  refine big_of h.1 ?_
  have e := congrArg Int.natAbs h.2
  rw [Int.natAbs_mul, Int.natAbs_mul, Int.natAbs_natCast, Int.natAbs_natCast, Nat.mul_one] at e
  rw [e]
  exact Nat.le_mul_of_pos_left _ (Int.natAbs_pos.mpr hi)
theorem ra_zero : Ra 0 1 (0 : UInt64) := ⟨⟨_, _, _, val64_zero⟩, by rw [show zv 0 = 0 from zval64_zero, Int.zero_mul, Int.zero_mul]⟩
theorem ra_one : Ra 1 1 (4607182418800017408 : UInt64) := Ra.lit (s := false) (c := 4503599627370496) (q := -52) (k := 0) (n := 52) (by decide +kernel) rfl (by decide) (by decide) (by decide)
theorem ra_two : Ra 2 1 (4611686018427387904 : UInt64) := Ra.lit (s := false) (c := 4503599627370496) (q := -51) (k := 0) (n := 51) (by decide +kernel) rfl (by decide) (by decide) (by decide)
end Jvm.OwnFP
namespace Jvm.Pilot.@@N@@
open Jvm Jvm.ClassFile Sem Op Lib Jvm.Free Jvm.Stand Jvm.LawKit Jvm.RoadKit Bundle Jvm.Pilot.@@N@@.Jvm.D
theorem d1_0 : decode prog_87_method_1_code 0 = .ok (.aload_n 0, 1) := by decide +kernel
theorem d1_1 : decode prog_87_method_1_code 1 = .ok (.invokespecial 1, 3) := by decide +kernel
theorem d1_4 : decode prog_87_method_1_code 4 = .ok (.aload_n 0, 1) := by decide +kernel
theorem d1_5 : decode prog_87_method_1_code 5 = .ok (.iload_n 1, 1) := by decide +kernel
theorem d1_6 : decode prog_87_method_1_code 6 = .ok (.newarray .double, 2) := by decide +kernel
theorem d1_8 : decode prog_87_method_1_code 8 = .ok (.putfield 7, 3) := by decide +kernel
theorem so_SparseColumn_listed_values {Z : State} {a0 : Array Value} (hw : ∀ d ∈ tables_1, d.before a0 Z = true) : Jvm.RoadKit.slotOf Z "com/example/leeway/leeway/lp/SparseColumn" "listed" "[Z" ≠ Jvm.RoadKit.slotOf Z "com/example/leeway/leeway/lp/SparseColumn" "values" "[D" := slot_ne (Or.inr (hw _ (List.mem_of_getElem? (i := 14) rfl))) (Or.inr (hw _ (List.mem_of_getElem? (i := 11) rfl))) (by decide) (t := (.array .boolean)) (t' := (.array .double)) (by decide) (by decide)
theorem so_SparseColumn_rows_values {Z : State} {a0 : Array Value} (hw : ∀ d ∈ tables_1, d.before a0 Z = true) : Jvm.RoadKit.slotOf Z "com/example/leeway/leeway/lp/SparseColumn" "rows" "[I" ≠ Jvm.RoadKit.slotOf Z "com/example/leeway/leeway/lp/SparseColumn" "values" "[D" := slot_ne (Or.inr (hw _ (List.mem_of_getElem? (i := 17) rfl))) (Or.inr (hw _ (List.mem_of_getElem? (i := 11) rfl))) (by decide) (t := (.array .int)) (t' := (.array .double)) (by decide) (by decide)
theorem so_SparseColumn_count_values {Z : State} {a0 : Array Value} (hw : ∀ d ∈ tables_1, d.before a0 Z = true) : Jvm.RoadKit.slotOf Z "com/example/leeway/leeway/lp/SparseColumn" "count" "I" ≠ Jvm.RoadKit.slotOf Z "com/example/leeway/leeway/lp/SparseColumn" "values" "[D" := slot_ne (Or.inl (hw _ (List.mem_of_getElem? (i := 24) rfl))) (Or.inr (hw _ (List.mem_of_getElem? (i := 11) rfl))) (by decide) (t := .int) (t' := (.array .double)) (by decide) (by decide)
theorem d1_11 : decode prog_87_method_1_code 11 = .ok (.aload_n 0, 1) := by decide +kernel
theorem d1_12 : decode prog_87_method_1_code 12 = .ok (.iload_n 1, 1) := by decide +kernel
theorem d1_13 : decode prog_87_method_1_code 13 = .ok (.newarray .boolean, 2) := by decide +kernel
theorem d1_15 : decode prog_87_method_1_code 15 = .ok (.putfield 13, 3) := by decide +kernel
theorem so_SparseColumn_values_listed {Z : State} {a0 : Array Value} (hw : ∀ d ∈ tables_1, d.before a0 Z = true) : Jvm.RoadKit.slotOf Z "com/example/leeway/leeway/lp/SparseColumn" "values" "[D" ≠ Jvm.RoadKit.slotOf Z "com/example/leeway/leeway/lp/SparseColumn" "listed" "[Z" := slot_ne (Or.inr (hw _ (List.mem_of_getElem? (i := 11) rfl))) (Or.inr (hw _ (List.mem_of_getElem? (i := 14) rfl))) (by decide) (t := (.array .double)) (t' := (.array .boolean)) (by decide) (by decide)
theorem so_SparseColumn_rows_listed {Z : State} {a0 : Array Value} (hw : ∀ d ∈ tables_1, d.before a0 Z = true) : Jvm.RoadKit.slotOf Z "com/example/leeway/leeway/lp/SparseColumn" "rows" "[I" ≠ Jvm.RoadKit.slotOf Z "com/example/leeway/leeway/lp/SparseColumn" "listed" "[Z" := slot_ne (Or.inr (hw _ (List.mem_of_getElem? (i := 17) rfl))) (Or.inr (hw _ (List.mem_of_getElem? (i := 14) rfl))) (by decide) (t := (.array .int)) (t' := (.array .boolean)) (by decide) (by decide)
theorem so_SparseColumn_count_listed {Z : State} {a0 : Array Value} (hw : ∀ d ∈ tables_1, d.before a0 Z = true) : Jvm.RoadKit.slotOf Z "com/example/leeway/leeway/lp/SparseColumn" "count" "I" ≠ Jvm.RoadKit.slotOf Z "com/example/leeway/leeway/lp/SparseColumn" "listed" "[Z" := slot_ne (Or.inl (hw _ (List.mem_of_getElem? (i := 24) rfl))) (Or.inr (hw _ (List.mem_of_getElem? (i := 14) rfl))) (by decide) (t := .int) (t' := (.array .boolean)) (by decide) (by decide)
theorem d1_18 : decode prog_87_method_1_code 18 = .ok (.aload_n 0, 1) := by decide +kernel
theorem d1_19 : decode prog_87_method_1_code 19 = .ok (.iload_n 1, 1) := by decide +kernel
theorem d1_20 : decode prog_87_method_1_code 20 = .ok (.newarray .int, 2) := by decide +kernel
theorem d1_22 : decode prog_87_method_1_code 22 = .ok (.putfield 17, 3) := by decide +kernel
theorem so_SparseColumn_values_rows {Z : State} {a0 : Array Value} (hw : ∀ d ∈ tables_1, d.before a0 Z = true) : Jvm.RoadKit.slotOf Z "com/example/leeway/leeway/lp/SparseColumn" "values" "[D" ≠ Jvm.RoadKit.slotOf Z "com/example/leeway/leeway/lp/SparseColumn" "rows" "[I" := slot_ne (Or.inr (hw _ (List.mem_of_getElem? (i := 11) rfl))) (Or.inr (hw _ (List.mem_of_getElem? (i := 17) rfl))) (by decide) (t := (.array .double)) (t' := (.array .int)) (by decide) (by decide)
theorem so_SparseColumn_listed_rows {Z : State} {a0 : Array Value} (hw : ∀ d ∈ tables_1, d.before a0 Z = true) : Jvm.RoadKit.slotOf Z "com/example/leeway/leeway/lp/SparseColumn" "listed" "[Z" ≠ Jvm.RoadKit.slotOf Z "com/example/leeway/leeway/lp/SparseColumn" "rows" "[I" := slot_ne (Or.inr (hw _ (List.mem_of_getElem? (i := 14) rfl))) (Or.inr (hw _ (List.mem_of_getElem? (i := 17) rfl))) (by decide) (t := (.array .boolean)) (t' := (.array .int)) (by decide) (by decide)
theorem so_SparseColumn_count_rows {Z : State} {a0 : Array Value} (hw : ∀ d ∈ tables_1, d.before a0 Z = true) : Jvm.RoadKit.slotOf Z "com/example/leeway/leeway/lp/SparseColumn" "count" "I" ≠ Jvm.RoadKit.slotOf Z "com/example/leeway/leeway/lp/SparseColumn" "rows" "[I" := slot_ne (Or.inl (hw _ (List.mem_of_getElem? (i := 24) rfl))) (Or.inr (hw _ (List.mem_of_getElem? (i := 17) rfl))) (by decide) (t := .int) (t' := (.array .int)) (by decide) (by decide)
theorem d1_25 : decode prog_87_method_1_code 25 = .ok (.return_, 1) := by decide +kernel
theorem pn_com_example_leeway_leeway_lp_SparseColumn : plainName "com/example/leeway/leeway/lp/SparseColumn" = true := by first | (simp [plainName, overriddenIn]; done) | decide +kernel
theorem ef_1_Rl_4___Int32_ (m : MethodId) (x0 : Addr) : entryFrame m #[(.ref x0), (.int (4 : Int32))] 2 = mkF m 0 #[.val (.ref x0), .val (.int (4 : Int32))] [] := by first | (simp [entryFrame, mkF, argsToLocals, Value.category]; done) | rfl
def Q_sci (Z : State) (o0 : Addr) (h0 : Heap) (n0 : Nat) (v : Option Value) (h : Heap) (L : List Loc) : Prop := (∃ (b2 : Addr) (b15 : Addr) (b30 : Addr) (k2 : ClassId) (k15 : ClassId) (k30 : ClassId), v = none ∧ Fr n0 L ∧ Keep h0 h [o0] ∧ h0.size ≤ b2 ∧ h0.size ≤ b15 ∧ h0.size ≤ b30 ∧ b2 ≠ b15 ∧ b2 ≠ b30 ∧ b15 ≠ b30 ∧ Exa Z h o0 "com/example/leeway/leeway/lp/SparseColumn" ∧ Fld Z h o0 "com/example/leeway/leeway/lp/SparseColumn" "values" "[D" (.ref b2) ∧ Fld Z h o0 "com/example/leeway/leeway/lp/SparseColumn" "listed" "[Z" (.ref b15) ∧ Fld Z h o0 "com/example/leeway/leeway/lp/SparseColumn" "rows" "[I" (.ref b30) ∧ Fld Z h o0 "com/example/leeway/leeway/lp/SparseColumn" "count" "I" (.int (0 : Int32)) ∧ Arv Z h b2 k2 .double (4 : Int32) [(.double (0 : UInt64)), (.double (0 : UInt64)), (.double (0 : UInt64)), (.double (0 : UInt64))] (.double (0 : UInt64)) ∧ Arv Z h b15 k15 .boolean (4 : Int32) [(.int (0 : Int32)), (.int (0 : Int32)), (.int (0 : Int32)), (.int (0 : Int32))] (.int (0 : Int32)) ∧ Arv Z h b30 k30 .int (4 : Int32) [(.int (0 : Int32)), (.int (0 : Int32)), (.int (0 : Int32)), (.int (0 : Int32))] (.int (0 : Int32)))
set_option maxRecDepth 65536 in
set_option maxHeartbeats 40000000 in
theorem sci (l : Launch) (Z : State) (a0 : Array Value) (hw : ∀ d ∈ tables_1, d.before a0 Z = true) (ws : List Jvm.Cond) (o0 : Addr) (h0 : Heap) (n0 : Nat) (Z0 : n0 ≤ h0.size) (g_o0 : n0 ≤ o0) (E_o0 : Exa Z h0 o0 "com/example/leeway/leeway/lp/SparseColumn") (F_values_o0 : Fld Z h0 o0 "com/example/leeway/leeway/lp/SparseColumn" "values" "[D" .null) (F_listed_o0 : Fld Z h0 o0 "com/example/leeway/leeway/lp/SparseColumn" "listed" "[Z" .null) (F_rows_o0 : Fld Z h0 o0 "com/example/leeway/leeway/lp/SparseColumn" "rows" "[I" .null) (F_count_o0 : Fld Z h0 o0 "com/example/leeway/leeway/lp/SparseColumn" "count" "I" (.int (0 : Int32))) :
    MetFree l (⟨"com/example/leeway/leeway/lp/SparseColumn", "<init>", "(I)V"⟩ : MethodName) (head1 (Jvm.Cond.code (⟨"com/example/leeway/leeway/lp/SparseColumn", "<init>", "(I)V"⟩ : MethodName) prog_87_method_1_code 2 none :: ws) ({ frames := 1, cells := 3, slots := 12, locals := 12 } : Room)) (fun a U => a = #[(.ref o0), (.int (4 : Int32))] ∧ Z.Warmed39 U.vm ∧ U.heap = h0) (fun _ _ _ _ _ => True) (fun _ U o U' => ∃ v L, o = .returned v ∧ Q_sci Z o0 h0 n0 v U'.heap L ∧ FrameEnd U o U' L ({ frames := 1, cells := 3, slots := 12, locals := 12 } : Room).cells ({ frames := 1, cells := 3, slots := 12, locals := 12 } : Room).slots) := by
  refine MetFree.of_bodySF (plainFor_of_name pn_com_example_leeway_leeway_lp_SparseColumn) hisR ?_
  intro p e s m args below meth c s₁ Bd hml0 hP hK
  obtain ⟨rfl, hZ, hh⟩ := hP
  have hx := Bd.exec
  have hby := Bd.bytes
  have hml : c.maxLocals = 2 := hml0
  have hown : s.vm.findClass "com/example/leeway/leeway/lp/SparseColumn" = some m.cls := findClass_of_methodNamed Bd.named
  have hnm := (name_of_methodNamed Bd.named Bd.method).1
  have X0 : Stand p l e ({ frames := 1, cells := 3, slots := 12, locals := 12 } : Room) s m #[(.ref o0), (.int (4 : Int32))] below meth c s₁ [] 0 0 := Stand.of_body Bd
  have e0 : s₁.heap = h0 := by rw [← hh, Bd.state]; rfl
  have N0 := Fr.nil n0
  have pre0 : ∀ t, Steps p.tables e below (s₁.setTop (mkF m 0 #[.val (.ref o0), .val (.int (4 : Int32))] [])) t → Steps p.tables e below (s₁.setTop (entryFrame m #[(.ref o0), (.int (4 : Int32))] 2)) t := fun t k => castTop (ef_1_Rl_4___Int32_ m o0) k
  obtain ⟨T1, X1, e1, st1⟩ := initO X0 hx hZ hown (hw _ (List.mem_of_getElem? (i := 6) rfl)) (hw _ (List.mem_of_getElem? (i := 7) rfl)) (hw _ (List.mem_of_getElem? (i := 8) rfl)) e0 (g := (mkF m 1 #[.val (.ref o0), .val (.int (4 : Int32))] [(.ref o0)])) rfl (by rw [hml]; rfl) rfl (hb hby d1_1) (by decide) (W := 0) (by show 2 * 0 + _ ≤ _; exact Nat.le_of_eq rfl) (by decide)
  obtain ⟨T2, h2, k2, X2, e2, E2, A2, st2⟩ := newP X1 hx hZ (hw _ (List.mem_of_getElem? (i := 9) rfl)) e1 (g := (mkF m 6 #[.val (.ref o0), .val (.int (4 : Int32))] [(.int (4 : Int32)), (.ref o0)])) rfl (hb hby d1_6) rfl (by decide) (cap := 4) (by decide) (by decide) (by decide) (by decide)
  obtain ⟨b2, g2⟩ : ∃ z, z = h0.size := ⟨_, rfl⟩
  rw [← g2] at A2 st2
  have ne_o0_b2 : o0 ≠ b2 := Nat.ne_of_lt (Nat.lt_of_lt_of_le E_o0.lt (Nat.le_of_eq g2.symm))
  have g_b2 : n0 ≤ b2 := Nat.le_trans Z0 (Nat.le_of_eq g2.symm)
  have sz_b2 : h0.size ≤ b2 := Nat.le_trans (Keep.refl h0 [o0]).1 (Nat.le_of_eq g2.symm)
  have f3 := E_o0.ext E2
  have f4 := F_values_o0.ext E2
  have f5 := F_listed_o0.ext E2
  have f6 := F_rows_o0.ext E2
  have f7 := F_count_o0.ext E2
  have K2 : Keep h0 h2 [o0] := (Keep.refl h0 [o0]).ext E2
  have Zs2 := Nat.le_trans Z0 E2.1
  have V2 : Arv Z h2 b2 k2 .double (4 : Int32) [(.double (0 : UInt64)), (.double (0 : UInt64)), (.double (0 : UInt64)), (.double (0 : UInt64))] (.double (0 : UInt64)) := (Arv.new A2 (by decide)).pad (pad_rep [] (.double (0 : UInt64)) 4)
  obtain ⟨T8, h8, X8, e8, W8, st8⟩ := putF X2 hx hZ hown (host := "") (Or.inl (hw _ (List.mem_of_getElem? (i := 10) rfl))) Via.refl e2 f4 f3 (Or.inr ⟨(hw _ (List.mem_of_getElem? (i := 11) rfl)), rfl, hnm⟩) (hw _ (List.mem_of_getElem? (i := 1) rfl)) (ty := (.array .double)) (by decide) rfl rfl (g := (mkF m 8 #[.val (.ref o0), .val (.int (4 : Int32))] [(.ref b2), (.ref o0)])) rfl rfl (hb hby d1_8)
  have f9 := f3.wr W8
  have f10 := f5.other W8 (Or.inr (so_SparseColumn_listed_values hw))
  have f11 := f6.other W8 (Or.inr (so_SparseColumn_rows_values hw))
  have f12 := f7.other W8 (Or.inr (so_SparseColumn_count_values hw))
  have f13 := V2.other W8 (Ne.symm ne_o0_b2)
  have K8 : Keep h0 h8 [o0] := K2.wr W8 (Or.inl (List.mem_of_getElem? (i := 0) rfl))
  have Zs8 := Nat.le_trans Zs2 (Keep.of_wr W8).1
  have N8 := Fr.snoc X8 N0 g_o0
  have f14 : Fld Z h8 o0 "com/example/leeway/leeway/lp/SparseColumn" "values" "[D" (.ref b2) := f4.same W8
  obtain ⟨T15, h15, k15, X15, e15, E15, A15, st15⟩ := newP X8 hx hZ (hw _ (List.mem_of_getElem? (i := 12) rfl)) e8 (g := (mkF m 13 #[.val (.ref o0), .val (.int (4 : Int32))] [(.int (4 : Int32)), (.ref o0)])) rfl (hb hby d1_13) rfl (by decide) (cap := 4) (by decide) (by decide) (by decide) (by decide)
  obtain ⟨b15, g15⟩ : ∃ z, z = h8.size := ⟨_, rfl⟩
  rw [← g15] at A15 st15
  have ne_o0_b15 : o0 ≠ b15 := Nat.ne_of_lt (Nat.lt_of_lt_of_le f9.lt (Nat.le_of_eq g15.symm))
  have ne_b2_b15 : b2 ≠ b15 := Nat.ne_of_lt (Nat.lt_of_lt_of_le f13.lt (Nat.le_of_eq g15.symm))
  have g_b15 : n0 ≤ b15 := Nat.le_trans Zs8 (Nat.le_of_eq g15.symm)
  have sz_b15 : h0.size ≤ b15 := Nat.le_trans K8.1 (Nat.le_of_eq g15.symm)
  have f16 := f9.ext E15
  have f17 := f14.ext E15
  have f18 := f10.ext E15
  have f19 := f11.ext E15
  have f20 := f12.ext E15
  have f21 := f13.ext E15
  have K15 : Keep h0 h15 [o0] := K8.ext E15
  have Zs15 := Nat.le_trans Zs8 E15.1
  have V15 : Arv Z h15 b15 k15 .boolean (4 : Int32) [(.int (0 : Int32)), (.int (0 : Int32)), (.int (0 : Int32)), (.int (0 : Int32))] (.int (0 : Int32)) := (Arv.new A15 (by decide)).pad (pad_rep [] (.int (0 : Int32)) 4)
  obtain ⟨T22, h22, X22, e22, W22, st22⟩ := putF X15 hx hZ hown (host := "") (Or.inl (hw _ (List.mem_of_getElem? (i := 13) rfl))) Via.refl e15 f18 f16 (Or.inr ⟨(hw _ (List.mem_of_getElem? (i := 14) rfl)), rfl, hnm⟩) (hw _ (List.mem_of_getElem? (i := 1) rfl)) (ty := (.array .boolean)) (by decide) rfl rfl (g := (mkF m 15 #[.val (.ref o0), .val (.int (4 : Int32))] [(.ref b15), (.ref o0)])) rfl rfl (hb hby d1_15)
  have f23 := f16.wr W22
  have f24 := f17.other W22 (Or.inr (so_SparseColumn_values_listed hw))
  have f25 := f19.other W22 (Or.inr (so_SparseColumn_rows_listed hw))
  have f26 := f20.other W22 (Or.inr (so_SparseColumn_count_listed hw))
  have f27 := f21.other W22 (Ne.symm ne_o0_b2)
  have f28 := V15.other W22 (Ne.symm ne_o0_b15)
  have K22 : Keep h0 h22 [o0] := K15.wr W22 (Or.inl (List.mem_of_getElem? (i := 0) rfl))
  have Zs22 := Nat.le_trans Zs15 (Keep.of_wr W22).1
  have N22 := Fr.snoc X22 N8 g_o0
  have f29 : Fld Z h22 o0 "com/example/leeway/leeway/lp/SparseColumn" "listed" "[Z" (.ref b15) := f18.same W22
  obtain ⟨T30, h30, k30, X30, e30, E30, A30, st30⟩ := newP X22 hx hZ (hw _ (List.mem_of_getElem? (i := 15) rfl)) e22 (g := (mkF m 20 #[.val (.ref o0), .val (.int (4 : Int32))] [(.int (4 : Int32)), (.ref o0)])) rfl (hb hby d1_20) rfl (by decide) (cap := 4) (by decide) (by decide) (by decide) (by decide)
  obtain ⟨b30, g30⟩ : ∃ z, z = h22.size := ⟨_, rfl⟩
  rw [← g30] at A30 st30
  have ne_o0_b30 : o0 ≠ b30 := Nat.ne_of_lt (Nat.lt_of_lt_of_le f23.lt (Nat.le_of_eq g30.symm))
  have ne_b2_b30 : b2 ≠ b30 := Nat.ne_of_lt (Nat.lt_of_lt_of_le f27.lt (Nat.le_of_eq g30.symm))
  have ne_b15_b30 : b15 ≠ b30 := Nat.ne_of_lt (Nat.lt_of_lt_of_le f28.lt (Nat.le_of_eq g30.symm))
  have g_b30 : n0 ≤ b30 := Nat.le_trans Zs22 (Nat.le_of_eq g30.symm)
  have sz_b30 : h0.size ≤ b30 := Nat.le_trans K22.1 (Nat.le_of_eq g30.symm)
  have f31 := f23.ext E30
  have f32 := f24.ext E30
  have f33 := f29.ext E30
  have f34 := f25.ext E30
  have f35 := f26.ext E30
  have f36 := f27.ext E30
  have f37 := f28.ext E30
  have K30 : Keep h0 h30 [o0] := K22.ext E30
  have Zs30 := Nat.le_trans Zs22 E30.1
  have V30 : Arv Z h30 b30 k30 .int (4 : Int32) [(.int (0 : Int32)), (.int (0 : Int32)), (.int (0 : Int32)), (.int (0 : Int32))] (.int (0 : Int32)) := (Arv.new A30 (by decide)).pad (pad_rep [] (.int (0 : Int32)) 4)
  obtain ⟨T38, h38, X38, e38, W38, st38⟩ := putF X30 hx hZ hown (host := "") (Or.inl (hw _ (List.mem_of_getElem? (i := 16) rfl))) Via.refl e30 f34 f31 (Or.inr ⟨(hw _ (List.mem_of_getElem? (i := 17) rfl)), rfl, hnm⟩) (hw _ (List.mem_of_getElem? (i := 1) rfl)) (ty := (.array .int)) (by decide) rfl rfl (g := (mkF m 22 #[.val (.ref o0), .val (.int (4 : Int32))] [(.ref b30), (.ref o0)])) rfl rfl (hb hby d1_22)
  have f39 := f31.wr W38
  have f40 := f32.other W38 (Or.inr (so_SparseColumn_values_rows hw))
  have f41 := f33.other W38 (Or.inr (so_SparseColumn_listed_rows hw))
  have f42 := f35.other W38 (Or.inr (so_SparseColumn_count_rows hw))
  have f43 := f36.other W38 (Ne.symm ne_o0_b2)
  have f44 := f37.other W38 (Ne.symm ne_o0_b15)
  have f45 := V30.other W38 (Ne.symm ne_o0_b30)
  have K38 : Keep h0 h38 [o0] := K30.wr W38 (Or.inl (List.mem_of_getElem? (i := 0) rfl))
  have Zs38 := Nat.le_trans Zs30 (Keep.of_wr W38).1
  have N38 := Fr.snoc X38 N22 g_o0
  have f46 : Fld Z h38 o0 "com/example/leeway/leeway/lp/SparseColumn" "rows" "[I" (.ref b30) := f34.same W38
  obtain ⟨fs, hr, hrun, hended, hW, hsame⟩ := X38.leave (v := none) (fun _ => rfl)
  refine ⟨_, _, pre0 _ ?_, hrun, hended, _, _, rfl, ?_, ⟨_, rfl⟩, hW, hsame.mono (by decide) (by decide)⟩
  · show Steps p.tables e below (s₁.setTop (mkF m 0 #[.val (.ref o0), .val (.int (4 : Int32))] [])) _
    refine XS.aloadN X0.here hx rfl (hb hby d1_0) rfl rfl ?_
    show Steps p.tables e below (s₁.setTop (mkF m 1 #[.val (.ref o0), .val (.int (4 : Int32))] [(.ref o0)])) _
    refine st1 _ ?_
    show Steps p.tables e below (T1.setTop (mkF m 4 #[.val (.ref o0), .val (.int (4 : Int32))] [])) _
    refine XS.aloadN X1.here hx rfl (hb hby d1_4) rfl rfl ?_
    show Steps p.tables e below (T1.setTop (mkF m 5 #[.val (.ref o0), .val (.int (4 : Int32))] [(.ref o0)])) _
    refine XS.iloadN X1.here hx rfl (hb hby d1_5) rfl ?_
    show Steps p.tables e below (T1.setTop (mkF m 6 #[.val (.ref o0), .val (.int (4 : Int32))] [(.int (4 : Int32)), (.ref o0)])) _
    refine st2 _ ?_
    show Steps p.tables e below (T2.setTop (mkF m 8 #[.val (.ref o0), .val (.int (4 : Int32))] [(.ref b2), (.ref o0)])) _
    refine st8 _ ?_
    show Steps p.tables e below (T8.setTop (mkF m 11 #[.val (.ref o0), .val (.int (4 : Int32))] [])) _
    refine XS.aloadN X8.here hx rfl (hb hby d1_11) rfl rfl ?_
    show Steps p.tables e below (T8.setTop (mkF m 12 #[.val (.ref o0), .val (.int (4 : Int32))] [(.ref o0)])) _
    refine XS.iloadN X8.here hx rfl (hb hby d1_12) rfl ?_
    show Steps p.tables e below (T8.setTop (mkF m 13 #[.val (.ref o0), .val (.int (4 : Int32))] [(.int (4 : Int32)), (.ref o0)])) _
    refine st15 _ ?_
    show Steps p.tables e below (T15.setTop (mkF m 15 #[.val (.ref o0), .val (.int (4 : Int32))] [(.ref b15), (.ref o0)])) _
    refine st22 _ ?_
    show Steps p.tables e below (T22.setTop (mkF m 18 #[.val (.ref o0), .val (.int (4 : Int32))] [])) _
    refine XS.aloadN X22.here hx rfl (hb hby d1_18) rfl rfl ?_
    show Steps p.tables e below (T22.setTop (mkF m 19 #[.val (.ref o0), .val (.int (4 : Int32))] [(.ref o0)])) _
    refine XS.iloadN X22.here hx rfl (hb hby d1_19) rfl ?_
    show Steps p.tables e below (T22.setTop (mkF m 20 #[.val (.ref o0), .val (.int (4 : Int32))] [(.int (4 : Int32)), (.ref o0)])) _
    refine st30 _ ?_
    show Steps p.tables e below (T30.setTop (mkF m 22 #[.val (.ref o0), .val (.int (4 : Int32))] [(.ref b30), (.ref o0)])) _
    refine st38 _ ?_
    show Steps p.tables e below (T38.setTop (mkF m 25 #[.val (.ref o0), .val (.int (4 : Int32))] [])) _
    exact X38.returnOut hx Bd.returns (hb hby d1_25) hr
  · show Q_sci Z o0 h0 n0 _ T38.heap _
    rw [e38]
    exact ⟨b2, b15, b30, k2, k15, k30, rfl, N38, K38, sz_b2, sz_b15, sz_b30, ne_b2_b15, ne_b2_b30, ne_b15_b30, f39, f40, f41, f46, f42, f43, f44, f45⟩
theorem d6_0 : decode prog_87_method_6_code 0 = .ok (.aload_n 0, 1) := by decide +kernel
theorem d6_1 : decode prog_87_method_6_code 1 = .ok (.getfield 13, 3) := by decide +kernel
theorem d6_4 : decode prog_87_method_6_code 4 = .ok (.iload_n 1, 1) := by decide +kernel
theorem d6_5 : decode prog_87_method_6_code 5 = .ok (.baload, 1) := by decide +kernel
theorem d6_6 : decode prog_87_method_6_code 6 = .ok (.ifCond .ne 27, 3) := by decide +kernel
theorem d6_9 : decode prog_87_method_6_code 9 = .ok (.aload_n 0, 1) := by decide +kernel
theorem d6_10 : decode prog_87_method_6_code 10 = .ok (.getfield 13, 3) := by decide +kernel
theorem d6_13 : decode prog_87_method_6_code 13 = .ok (.iload_n 1, 1) := by decide +kernel
theorem d6_14 : decode prog_87_method_6_code 14 = .ok (.iconst 1, 1) := by decide +kernel
theorem d6_15 : decode prog_87_method_6_code 15 = .ok (.bastore, 1) := by decide +kernel
theorem d6_16 : decode prog_87_method_6_code 16 = .ok (.aload_n 0, 1) := by decide +kernel
theorem d6_17 : decode prog_87_method_6_code 17 = .ok (.getfield 17, 3) := by decide +kernel
theorem d6_20 : decode prog_87_method_6_code 20 = .ok (.aload_n 0, 1) := by decide +kernel
theorem d6_21 : decode prog_87_method_6_code 21 = .ok (.dup, 1) := by decide +kernel
theorem d6_22 : decode prog_87_method_6_code 22 = .ok (.getfield 21, 3) := by decide +kernel
theorem d6_25 : decode prog_87_method_6_code 25 = .ok (.dup_x1, 1) := by decide +kernel
theorem d6_26 : decode prog_87_method_6_code 26 = .ok (.iconst 1, 1) := by decide +kernel
theorem d6_27 : decode prog_87_method_6_code 27 = .ok (.iadd, 1) := by decide +kernel
theorem d6_28 : decode prog_87_method_6_code 28 = .ok (.putfield 21, 3) := by decide +kernel
theorem so_SparseColumn_values_count {Z : State} {a0 : Array Value} (hw : ∀ d ∈ tables_1, d.before a0 Z = true) : Jvm.RoadKit.slotOf Z "com/example/leeway/leeway/lp/SparseColumn" "values" "[D" ≠ Jvm.RoadKit.slotOf Z "com/example/leeway/leeway/lp/SparseColumn" "count" "I" := slot_ne (Or.inr (hw _ (List.mem_of_getElem? (i := 11) rfl))) (Or.inl (hw _ (List.mem_of_getElem? (i := 24) rfl))) (by decide) (t := (.array .double)) (t' := .int) (by decide) (by decide)
theorem so_SparseColumn_listed_count {Z : State} {a0 : Array Value} (hw : ∀ d ∈ tables_1, d.before a0 Z = true) : Jvm.RoadKit.slotOf Z "com/example/leeway/leeway/lp/SparseColumn" "listed" "[Z" ≠ Jvm.RoadKit.slotOf Z "com/example/leeway/leeway/lp/SparseColumn" "count" "I" := slot_ne (Or.inr (hw _ (List.mem_of_getElem? (i := 14) rfl))) (Or.inl (hw _ (List.mem_of_getElem? (i := 24) rfl))) (by decide) (t := (.array .boolean)) (t' := .int) (by decide) (by decide)
theorem so_SparseColumn_rows_count {Z : State} {a0 : Array Value} (hw : ∀ d ∈ tables_1, d.before a0 Z = true) : Jvm.RoadKit.slotOf Z "com/example/leeway/leeway/lp/SparseColumn" "rows" "[I" ≠ Jvm.RoadKit.slotOf Z "com/example/leeway/leeway/lp/SparseColumn" "count" "I" := slot_ne (Or.inr (hw _ (List.mem_of_getElem? (i := 17) rfl))) (Or.inl (hw _ (List.mem_of_getElem? (i := 24) rfl))) (by decide) (t := (.array .int)) (t' := .int) (by decide) (by decide)
theorem d6_31 : decode prog_87_method_6_code 31 = .ok (.iload_n 1, 1) := by decide +kernel
theorem d6_32 : decode prog_87_method_6_code 32 = .ok (.iastore, 1) := by decide +kernel
theorem d6_33 : decode prog_87_method_6_code 33 = .ok (.aload_n 0, 1) := by decide +kernel
theorem d6_34 : decode prog_87_method_6_code 34 = .ok (.getfield 7, 3) := by decide +kernel
theorem d6_37 : decode prog_87_method_6_code 37 = .ok (.iload_n 1, 1) := by decide +kernel
theorem d6_38 : decode prog_87_method_6_code 38 = .ok (.dup2, 1) := by decide +kernel
theorem d6_39 : decode prog_87_method_6_code 39 = .ok (.daload, 1) := by decide +kernel
theorem d6_40 : decode prog_87_method_6_code 40 = .ok (.dload_n 2, 1) := by decide +kernel
theorem d6_41 : decode prog_87_method_6_code 41 = .ok (.dadd, 1) := by decide +kernel
theorem d6_42 : decode prog_87_method_6_code 42 = .ok (.dastore, 1) := by decide +kernel
theorem d6_43 : decode prog_87_method_6_code 43 = .ok (.return_, 1) := by decide +kernel
theorem ef_6_RID (m : MethodId) (x0 : Addr) (x1 : Int32) (x2 : UInt64) : entryFrame m #[(.ref x0), (.int x1), (.double x2)] 4 = mkF m 0 #[.val (.ref x0), .val (.int x1), .val (.double x2), .second] [] := by first | (simp [entryFrame, mkF, argsToLocals, Value.category]; done) | rfl
def Q_addN0 (Z : State) (o0 : Addr) (v0 : Addr) (l0 : Addr) (w0 : Addr) (kv : ClassId) (kl : ClassId) (kw : ClassId) (q0 : Int32) (q1 : Int32) (q2 : Int32) (q3 : Int32) (vs : List Value) (ls : List Value) (vs1 : List Value) (ls1 : List Value) (i : Int32) (d0 : UInt64) (dx : UInt64) (dy : UInt64) (h0 : Heap) (n0 : Nat) (v : Option Value) (h : Heap) (L : List Loc) : Prop := v = none ∧ Fr n0 L ∧ Keep h0 h [l0, o0, w0, v0] ∧ Exa Z h o0 "com/example/leeway/leeway/lp/SparseColumn" ∧ Fld Z h o0 "com/example/leeway/leeway/lp/SparseColumn" "values" "[D" (.ref v0) ∧ Fld Z h o0 "com/example/leeway/leeway/lp/SparseColumn" "listed" "[Z" (.ref l0) ∧ Fld Z h o0 "com/example/leeway/leeway/lp/SparseColumn" "rows" "[I" (.ref w0) ∧ Fld Z h o0 "com/example/leeway/leeway/lp/SparseColumn" "count" "I" (.int (1 : Int32)) ∧ Arv Z h v0 kv .double (4 : Int32) vs1 (.double (0 : UInt64)) ∧ Arv Z h l0 kl .boolean (4 : Int32) ls1 (.int (0 : Int32)) ∧ Arv Z h w0 kw .int (4 : Int32) [(.int i), (.int q1), (.int q2), (.int q3)] (.int (0 : Int32))
set_option maxRecDepth 65536 in
set_option maxHeartbeats 40000000 in
theorem addN0 (l : Launch) (Z : State) (a0 : Array Value) (hw : ∀ d ∈ tables_1, d.before a0 Z = true) (ws : List Jvm.Cond) (o0 : Addr) (v0 : Addr) (l0 : Addr) (w0 : Addr) (kv : ClassId) (kl : ClassId) (kw : ClassId) (q0 : Int32) (q1 : Int32) (q2 : Int32) (q3 : Int32) (vs : List Value) (ls : List Value) (vs1 : List Value) (ls1 : List Value) (i : Int32) (d0 : UInt64) (dx : UInt64) (dy : UInt64) (h0 : Heap) (n0 : Nat) (Z0 : n0 ≤ h0.size) (F_values_o0 : Fld Z h0 o0 "com/example/leeway/leeway/lp/SparseColumn" "values" "[D" (.ref v0)) (F_listed_o0 : Fld Z h0 o0 "com/example/leeway/leeway/lp/SparseColumn" "listed" "[Z" (.ref l0)) (F_rows_o0 : Fld Z h0 o0 "com/example/leeway/leeway/lp/SparseColumn" "rows" "[I" (.ref w0)) (F_count_o0 : Fld Z h0 o0 "com/example/leeway/leeway/lp/SparseColumn" "count" "I" (.int (0 : Int32))) (E_o0 : Exa Z h0 o0 "com/example/leeway/leeway/lp/SparseColumn") (V_v0 : Arv Z h0 v0 kv .double (4 : Int32) vs (.double (0 : UInt64))) (V_l0 : Arv Z h0 l0 kl .boolean (4 : Int32) ls (.int (0 : Int32))) (V_w0 : Arv Z h0 w0 kw .int (4 : Int32) [(.int q0), (.int q1), (.int q2), (.int q3)] (.int (0 : Int32))) (g_o0 : n0 ≤ o0) (g_v0 : n0 ≤ v0) (g_l0 : n0 ≤ l0) (g_w0 : n0 ≤ w0) (ne_o0_v0 : o0 ≠ v0) (ne_o0_l0 : o0 ≠ l0) (ne_o0_w0 : o0 ≠ w0) (ne_v0_l0 : v0 ≠ l0) (ne_v0_w0 : v0 ≠ w0) (ne_l0_w0 : l0 ≠ w0) (hix : ¬ i < 0 ∧ i < (4 : Int32)) (hrl : ls.getD i.toNatClampNeg (.int (0 : Int32)) = .int (0 : Int32)) (hrv : vs.getD i.toNatClampNeg (.double (0 : UInt64)) = .double dx) (hvl : i.toNatClampNeg < vs.length) (hll : i.toNatClampNeg < ls.length) (hls : (ls.set i.toNatClampNeg (.int (1 : Int32))) = ls1) (hvs : (vs.set i.toNatClampNeg (.double dy)) = vs1) (nn41 : Jvm.Free.Fl.NoNaN64 (FP.dadd dx d0)) (hq41 : (FP.dadd dx d0) = dy) :
    MetFree l (⟨"com/example/leeway/leeway/lp/SparseColumn", "add", "(ID)V"⟩ : MethodName) (head1 (Jvm.Cond.code (⟨"com/example/leeway/leeway/lp/SparseColumn", "add", "(ID)V"⟩ : MethodName) prog_87_method_6_code 4 none :: ws) ({ frames := 0, cells := 0, slots := 0, locals := 0 } : Room)) (fun a U => a = #[(.ref o0), (.int i), (.double d0)] ∧ Z.Warmed39 U.vm ∧ U.heap = h0) (fun _ _ _ _ _ => True) (fun _ U o U' => ∃ v L, o = .returned v ∧ Q_addN0 Z o0 v0 l0 w0 kv kl kw q0 q1 q2 q3 vs ls vs1 ls1 i d0 dx dy h0 n0 v U'.heap L ∧ FrameEnd U o U' L ({ frames := 0, cells := 0, slots := 0, locals := 0 } : Room).cells ({ frames := 0, cells := 0, slots := 0, locals := 0 } : Room).slots) := by
  refine MetFree.of_bodySF (plainFor_of_name pn_com_example_leeway_leeway_lp_SparseColumn) hisR ?_
  intro p e s m args below meth c s₁ Bd hml0 hP hK
  obtain ⟨rfl, hZ, hh⟩ := hP
  have hx := Bd.exec
  have hby := Bd.bytes
  have hml : c.maxLocals = 4 := hml0
  have hown : s.vm.findClass "com/example/leeway/leeway/lp/SparseColumn" = some m.cls := findClass_of_methodNamed Bd.named
  have hnm := (name_of_methodNamed Bd.named Bd.method).1
  have X0 : Stand p l e ({ frames := 0, cells := 0, slots := 0, locals := 0 } : Room) s m #[(.ref o0), (.int i), (.double d0)] below meth c s₁ [] 0 0 := Stand.of_body Bd
  have e0 : s₁.heap = h0 := by rw [← hh, Bd.state]; rfl
  have N0 := Fr.nil n0
  have pre0 : ∀ t, Steps p.tables e below (s₁.setTop (mkF m 0 #[.val (.ref o0), .val (.int i), .val (.double d0), .second] [])) t → Steps p.tables e below (s₁.setTop (entryFrame m #[(.ref o0), (.int i), (.double d0)] 4)) t := fun t k => castTop (ef_6_RID m o0 i d0) k
  obtain ⟨T1, X1, e1, st1⟩ := getF X0 hx hZ hown (host := "") (Or.inl (hw _ (List.mem_of_getElem? (i := 13) rfl))) Via.refl e0 F_listed_o0 (g := (mkF m 1 #[.val (.ref o0), .val (.int i), .val (.double d0), .second] [(.ref o0)])) rfl rfl (hb hby d6_1)
  obtain ⟨cq2, Arq2, -, Sq2, -, Hq2, -⟩ := id V_l0
  obtain ⟨T3, X3, e3, st3⟩ := getF X1 hx hZ hown (host := "") (Or.inl (hw _ (List.mem_of_getElem? (i := 13) rfl))) Via.refl e1 F_listed_o0 (g := (mkF m 10 #[.val (.ref o0), .val (.int i), .val (.double d0), .second] [(.ref o0)])) rfl rfl (hb hby d6_10)
  obtain ⟨cq4, Arq4, qq4, Sq4, Nq4, Hq4, Gq4⟩ := id V_l0
  obtain ⟨T5, h5, X5, e5, W5, st5⟩ := stZ X3 hx hZ e3 Arq4 (j := i) (inb_of Sq4 hix) (g := (mkF m 15 #[.val (.ref o0), .val (.int i), .val (.double d0), .second] [(.int (1 : Int32)), (.int i), (.ref l0)])) rfl rfl (hb hby d6_15)
  have f6 := F_values_o0.other W5 (Or.inl ne_o0_l0)
  have f7 := F_listed_o0.other W5 (Or.inl ne_o0_l0)
  have f8 := F_rows_o0.other W5 (Or.inl ne_o0_l0)
  have f9 := F_count_o0.other W5 (Or.inl ne_o0_l0)
  have f10 := E_o0.wr W5
  have f11 := V_v0.other W5 ne_v0_l0
  have f12 := V_w0.other W5 (Ne.symm ne_l0_w0)
  have K5 : Keep h0 h5 [l0, o0, w0, v0] := (Keep.refl h0 [l0, o0, w0, v0]).wr W5 (Or.inl (List.mem_of_getElem? (i := 0) rfl))
  have Zs5 := Nat.le_trans Z0 (Keep.of_wr W5).1
  have N5 := Fr.snoc X5 N0 g_l0
  have f13 : Arv Z h5 l0 kl .boolean (4 : Int32) (ls.set i.toNatClampNeg (.int (1 : Int32))) (.int (0 : Int32)) := Arv.set Arq4 qq4 Sq4 Nq4 Hq4 Gq4 (by decide) W5 i.toNatClampNeg rfl hll
  obtain ⟨T14, X14, e14, st14⟩ := getF X5 hx hZ hown (host := "") (Or.inl (hw _ (List.mem_of_getElem? (i := 16) rfl))) Via.refl e5 f8 (g := (mkF m 17 #[.val (.ref o0), .val (.int i), .val (.double d0), .second] [(.ref o0)])) rfl rfl (hb hby d6_17)
  obtain ⟨T15, X15, e15, st15⟩ := getF X14 hx hZ hown (host := "") (Or.inl (hw _ (List.mem_of_getElem? (i := 23) rfl))) Via.refl e14 f9 (g := (mkF m 22 #[.val (.ref o0), .val (.int i), .val (.double d0), .second] [(.ref o0), (.ref o0), (.ref w0)])) rfl rfl (hb hby d6_22)
  obtain ⟨T16, h16, X16, e16, W16, st16⟩ := putF X15 hx hZ hown (host := "") (Or.inl (hw _ (List.mem_of_getElem? (i := 23) rfl))) Via.refl e15 f9 f10 (Or.inl (hw _ (List.mem_of_getElem? (i := 24) rfl))) (hw _ (List.mem_of_getElem? (i := 1) rfl)) (ty := .int) (by decide) rfl rfl (g := (mkF m 28 #[.val (.ref o0), .val (.int i), .val (.double d0), .second] [(.int (1 : Int32)), (.ref o0), (.int (0 : Int32)), (.ref w0)])) rfl rfl (hb hby d6_28)
  have f17 := f6.other W16 (Or.inr (so_SparseColumn_values_count hw))
  have f18 := f7.other W16 (Or.inr (so_SparseColumn_listed_count hw))
  have f19 := f8.other W16 (Or.inr (so_SparseColumn_rows_count hw))
  have f20 := f10.wr W16
  have f21 := f11.other W16 (Ne.symm ne_o0_v0)
  have f22 := f13.other W16 (Ne.symm ne_o0_l0)
  have f23 := f12.other W16 (Ne.symm ne_o0_w0)
  have K16 : Keep h0 h16 [l0, o0, w0, v0] := K5.wr W16 (Or.inl (List.mem_of_getElem? (i := 1) rfl))
  have Zs16 := Nat.le_trans Zs5 (Keep.of_wr W16).1
  have N16 := Fr.snoc X16 N5 g_o0
  have f24 : Fld Z h16 o0 "com/example/leeway/leeway/lp/SparseColumn" "count" "I" (.int (1 : Int32)) := f9.same W16
  obtain ⟨cq25, Arq25, qq25, Sq25, Nq25, Hq25, Gq25⟩ := id f23
  obtain ⟨T26, h26, X26, e26, W26, st26⟩ := stI X16 hx hZ e16 Arq25 (j := (0 : Int32)) (inb_of Sq25 ⟨by decide, by decide⟩) (g := (mkF m 32 #[.val (.ref o0), .val (.int i), .val (.double d0), .second] [(.int i), (.int (0 : Int32)), (.ref w0)])) rfl rfl (hb hby d6_32)
  have f27 := f17.other W26 (Or.inl ne_o0_w0)
  have f28 := f18.other W26 (Or.inl ne_o0_w0)
  have f29 := f19.other W26 (Or.inl ne_o0_w0)
  have f30 := f24.other W26 (Or.inl ne_o0_w0)
  have f31 := f20.wr W26
  have f32 := f21.other W26 ne_v0_w0
  have f33 := f22.other W26 ne_l0_w0
  have K26 : Keep h0 h26 [l0, o0, w0, v0] := K16.wr W26 (Or.inl (List.mem_of_getElem? (i := 2) rfl))
  have Zs26 := Nat.le_trans Zs16 (Keep.of_wr W26).1
  have N26 := Fr.snoc X26 N16 g_w0
  have f34 : Arv Z h26 w0 kw .int (4 : Int32) [(.int i), (.int q1), (.int q2), (.int q3)] (.int (0 : Int32)) := Arv.set Arq25 qq25 Sq25 Nq25 Hq25 Gq25 rfl W26 0 rfl (Nat.le_of_ble_eq_true rfl)
  obtain ⟨T35, X35, e35, st35⟩ := getF X26 hx hZ hown (host := "") (Or.inl (hw _ (List.mem_of_getElem? (i := 10) rfl))) Via.refl e26 f27 (g := (mkF m 34 #[.val (.ref o0), .val (.int i), .val (.double d0), .second] [(.ref o0)])) rfl rfl (hb hby d6_34)
  obtain ⟨cq36, Arq36, -, Sq36, -, Hq36, -⟩ := id f32
  obtain ⟨cq37, Arq37, qq37, Sq37, Nq37, Hq37, Gq37⟩ := id f32
  obtain ⟨T38, h38, X38, e38, W38, st38⟩ := stD X35 hx hZ e35 Arq37 (j := i) (inb_of Sq37 hix) (g := (mkF m 42 #[.val (.ref o0), .val (.int i), .val (.double d0), .second] [(.double dy), (.int i), (.ref v0)])) rfl rfl (hb hby d6_42)
  have f39 := f27.other W38 (Or.inl ne_o0_v0)
  have f40 := f28.other W38 (Or.inl ne_o0_v0)
  have f41 := f29.other W38 (Or.inl ne_o0_v0)
  have f42 := f30.other W38 (Or.inl ne_o0_v0)
  have f43 := f31.wr W38
  have f44 := f33.other W38 (Ne.symm ne_v0_l0)
  have f45 := f34.other W38 (Ne.symm ne_v0_w0)
  have K38 : Keep h0 h38 [l0, o0, w0, v0] := K26.wr W38 (Or.inl (List.mem_of_getElem? (i := 3) rfl))
  have Zs38 := Nat.le_trans Zs26 (Keep.of_wr W38).1
  have N38 := Fr.snoc X38 N26 g_v0
  have f46 : Arv Z h38 v0 kv .double (4 : Int32) (vs.set i.toNatClampNeg (.double dy)) (.double (0 : UInt64)) := Arv.set Arq37 qq37 Sq37 Nq37 Hq37 Gq37 rfl W38 i.toNatClampNeg rfl hvl
  have f47 : Arv Z h38 v0 kv .double (4 : Int32) vs1 (.double (0 : UInt64)) := (hvs : (vs.set i.toNatClampNeg (.double dy)) = vs1) ▸ f46
  have f48 : Arv Z h38 l0 kl .boolean (4 : Int32) ls1 (.int (0 : Int32)) := (hls : (ls.set i.toNatClampNeg (.int (1 : Int32))) = ls1) ▸ f44
  obtain ⟨fs, hr, hrun, hended, hW, hsame⟩ := X38.leave (v := none) (fun _ => rfl)
  refine ⟨_, _, pre0 _ ?_, hrun, hended, _, _, rfl, ?_, ⟨_, rfl⟩, hW, hsame.mono (by decide) (by decide)⟩
  · show Steps p.tables e below (s₁.setTop (mkF m 0 #[.val (.ref o0), .val (.int i), .val (.double d0), .second] [])) _
    refine XS.aloadN X0.here hx rfl (hb hby d6_0) rfl rfl ?_
    show Steps p.tables e below (s₁.setTop (mkF m 1 #[.val (.ref o0), .val (.int i), .val (.double d0), .second] [(.ref o0)])) _
    refine st1 _ ?_
    show Steps p.tables e below (T1.setTop (mkF m 4 #[.val (.ref o0), .val (.int i), .val (.double d0), .second] [(.ref l0)])) _
    refine XS.iloadN X1.here hx rfl (hb hby d6_4) rfl ?_
    show Steps p.tables e below (T1.setTop (mkF m 5 #[.val (.ref o0), .val (.int i), .val (.double d0), .second] [(.int i), (.ref l0)])) _
    refine X1.baloadBooleans hx (j := i) (v := (.int (0 : Int32))) (by rw [e1]; exact Arq2.1) (State.isArrayOf_alike hZ.alike Arq2.2.1) Arq2.2.2 (inb_of Sq2 hix) (Has.at Hq2 (inb_of Sq2 hix) hrl) (g := (mkF m 5 #[.val (.ref o0), .val (.int i), .val (.double d0), .second] [(.int i), (.ref l0)])) rfl rfl (hb hby d6_5) _ ?_
    show Steps p.tables e below (T1.setTop (mkF m 6 #[.val (.ref o0), .val (.int i), .val (.double d0), .second] [(.int (0 : Int32))])) _
    refine XS.ifNo X1.here hx rfl (hb hby d6_6) rfl ((if0 _ _).trans (teq (by decide : (0 : Int32) = (0 : Int32))).2) ?_
    show Steps p.tables e below (T1.setTop (mkF m 9 #[.val (.ref o0), .val (.int i), .val (.double d0), .second] [])) _
    refine XS.aloadN X1.here hx rfl (hb hby d6_9) rfl rfl ?_
    show Steps p.tables e below (T1.setTop (mkF m 10 #[.val (.ref o0), .val (.int i), .val (.double d0), .second] [(.ref o0)])) _
    refine st3 _ ?_
    show Steps p.tables e below (T3.setTop (mkF m 13 #[.val (.ref o0), .val (.int i), .val (.double d0), .second] [(.ref l0)])) _
    refine XS.iloadN X3.here hx rfl (hb hby d6_13) rfl ?_
    show Steps p.tables e below (T3.setTop (mkF m 14 #[.val (.ref o0), .val (.int i), .val (.double d0), .second] [(.int i), (.ref l0)])) _
    refine XS.iconst X3.here hx rfl (hb hby d6_14) ?_
    show Steps p.tables e below (T3.setTop (mkF m 15 #[.val (.ref o0), .val (.int i), .val (.double d0), .second] [(.int (1 : Int32)), (.int i), (.ref l0)])) _
    refine st5 _ ?_
    show Steps p.tables e below (T5.setTop (mkF m 16 #[.val (.ref o0), .val (.int i), .val (.double d0), .second] [])) _
    refine XS.aloadN X5.here hx rfl (hb hby d6_16) rfl rfl ?_
    show Steps p.tables e below (T5.setTop (mkF m 17 #[.val (.ref o0), .val (.int i), .val (.double d0), .second] [(.ref o0)])) _
    refine st14 _ ?_
    show Steps p.tables e below (T14.setTop (mkF m 20 #[.val (.ref o0), .val (.int i), .val (.double d0), .second] [(.ref w0)])) _
    refine XS.aloadN X14.here hx rfl (hb hby d6_20) rfl rfl ?_
    show Steps p.tables e below (T14.setTop (mkF m 21 #[.val (.ref o0), .val (.int i), .val (.double d0), .second] [(.ref o0), (.ref w0)])) _
    refine XS.dup X14.here hx rfl (hb hby d6_21) rfl rfl ?_
    show Steps p.tables e below (T14.setTop (mkF m 22 #[.val (.ref o0), .val (.int i), .val (.double d0), .second] [(.ref o0), (.ref o0), (.ref w0)])) _
    refine st15 _ ?_
    show Steps p.tables e below (T15.setTop (mkF m 25 #[.val (.ref o0), .val (.int i), .val (.double d0), .second] [(.int (0 : Int32)), (.ref o0), (.ref w0)])) _
    refine XS.dupX1 X15.here hx rfl (hb hby d6_25) rfl rfl rfl ?_
    show Steps p.tables e below (T15.setTop (mkF m 26 #[.val (.ref o0), .val (.int i), .val (.double d0), .second] [(.int (0 : Int32)), (.ref o0), (.int (0 : Int32)), (.ref w0)])) _
    refine XS.iconst X15.here hx rfl (hb hby d6_26) ?_
    show Steps p.tables e below (T15.setTop (mkF m 27 #[.val (.ref o0), .val (.int i), .val (.double d0), .second] [(.int (1 : Int32)), (.int (0 : Int32)), (.ref o0), (.int (0 : Int32)), (.ref w0)])) _
    refine XS.iadd X15.here hx rfl (hb hby d6_27) rfl ?_
    show Steps p.tables e below (T15.setTop (mkF m 28 #[.val (.ref o0), .val (.int i), .val (.double d0), .second] [(.int ((0 : Int32) + (1 : Int32))), (.ref o0), (.int (0 : Int32)), (.ref w0)])) _
    rw [show ((0 : Int32) + (1 : Int32)) = (1 : Int32) by decide]
    show Steps p.tables e below (T15.setTop (mkF m 28 #[.val (.ref o0), .val (.int i), .val (.double d0), .second] [(.int (1 : Int32)), (.ref o0), (.int (0 : Int32)), (.ref w0)])) _
    refine st16 _ ?_
    show Steps p.tables e below (T16.setTop (mkF m 31 #[.val (.ref o0), .val (.int i), .val (.double d0), .second] [(.int (0 : Int32)), (.ref w0)])) _
    refine XS.iloadN X16.here hx rfl (hb hby d6_31) rfl ?_
    show Steps p.tables e below (T16.setTop (mkF m 32 #[.val (.ref o0), .val (.int i), .val (.double d0), .second] [(.int i), (.int (0 : Int32)), (.ref w0)])) _
    refine st26 _ ?_
    show Steps p.tables e below (T26.setTop (mkF m 33 #[.val (.ref o0), .val (.int i), .val (.double d0), .second] [])) _
    refine XS.aloadN X26.here hx rfl (hb hby d6_33) rfl rfl ?_
    show Steps p.tables e below (T26.setTop (mkF m 34 #[.val (.ref o0), .val (.int i), .val (.double d0), .second] [(.ref o0)])) _
    refine st35 _ ?_
    show Steps p.tables e below (T35.setTop (mkF m 37 #[.val (.ref o0), .val (.int i), .val (.double d0), .second] [(.ref v0)])) _
    refine XS.iloadN X35.here hx rfl (hb hby d6_37) rfl ?_
    show Steps p.tables e below (T35.setTop (mkF m 38 #[.val (.ref o0), .val (.int i), .val (.double d0), .second] [(.int i), (.ref v0)])) _
    jvm_step X35.here [X35.here.top, hx, (hb hby d6_38), Value.category]
    show Steps p.tables e below (T35.setTop (mkF m 39 #[.val (.ref o0), .val (.int i), .val (.double d0), .second] [(.int i), (.ref v0), (.int i), (.ref v0)])) _
    refine X35.daload hx (j := i) (v := (.double dx)) (by rw [e35]; exact Arq36.1) (State.isArrayOf_alike hZ.alike Arq36.2.1) Arq36.2.2 (inb_of Sq36 hix) (Has.at Hq36 (inb_of Sq36 hix) hrv) (g := (mkF m 39 #[.val (.ref o0), .val (.int i), .val (.double d0), .second] [(.int i), (.ref v0), (.int i), (.ref v0)])) rfl rfl (hb hby d6_39) _ ?_
    show Steps p.tables e below (T35.setTop (mkF m 40 #[.val (.ref o0), .val (.int i), .val (.double d0), .second] [(.double dx), (.int i), (.ref v0)])) _
    refine XS.dloadN X35.here hx rfl (hb hby d6_40) rfl ?_
    show Steps p.tables e below (T35.setTop (mkF m 41 #[.val (.ref o0), .val (.int i), .val (.double d0), .second] [(.double d0), (.double dx), (.int i), (.ref v0)])) _
    refine XS.daddS X35.here hx rfl (hb hby d6_41) rfl nn41 (v := dy) hq41 ?_
    show Steps p.tables e below (T35.setTop (mkF m 42 #[.val (.ref o0), .val (.int i), .val (.double d0), .second] [(.double dy), (.int i), (.ref v0)])) _
    refine st38 _ ?_
    show Steps p.tables e below (T38.setTop (mkF m 43 #[.val (.ref o0), .val (.int i), .val (.double d0), .second] [])) _
    exact X38.returnOut hx Bd.returns (hb hby d6_43) hr
  · show Q_addN0 Z o0 v0 l0 w0 kv kl kw q0 q1 q2 q3 vs ls vs1 ls1 i d0 dx dy h0 n0 _ T38.heap _
    rw [e38]
    exact ⟨rfl, N38, K38, f43, f39, f40, f41, f42, f47, f48, f45⟩
def Q_addN1 (Z : State) (o0 : Addr) (v0 : Addr) (l0 : Addr) (w0 : Addr) (kv : ClassId) (kl : ClassId) (kw : ClassId) (q0 : Int32) (q1 : Int32) (q2 : Int32) (q3 : Int32) (vs : List Value) (ls : List Value) (vs1 : List Value) (ls1 : List Value) (i : Int32) (d0 : UInt64) (dx : UInt64) (dy : UInt64) (h0 : Heap) (n0 : Nat) (v : Option Value) (h : Heap) (L : List Loc) : Prop := v = none ∧ Fr n0 L ∧ Keep h0 h [l0, o0, w0, v0] ∧ Exa Z h o0 "com/example/leeway/leeway/lp/SparseColumn" ∧ Fld Z h o0 "com/example/leeway/leeway/lp/SparseColumn" "values" "[D" (.ref v0) ∧ Fld Z h o0 "com/example/leeway/leeway/lp/SparseColumn" "listed" "[Z" (.ref l0) ∧ Fld Z h o0 "com/example/leeway/leeway/lp/SparseColumn" "rows" "[I" (.ref w0) ∧ Fld Z h o0 "com/example/leeway/leeway/lp/SparseColumn" "count" "I" (.int (2 : Int32)) ∧ Arv Z h v0 kv .double (4 : Int32) vs1 (.double (0 : UInt64)) ∧ Arv Z h l0 kl .boolean (4 : Int32) ls1 (.int (0 : Int32)) ∧ Arv Z h w0 kw .int (4 : Int32) [(.int q0), (.int i), (.int q2), (.int q3)] (.int (0 : Int32))
set_option maxRecDepth 65536 in
set_option maxHeartbeats 40000000 in
theorem addN1 (l : Launch) (Z : State) (a0 : Array Value) (hw : ∀ d ∈ tables_1, d.before a0 Z = true) (ws : List Jvm.Cond) (o0 : Addr) (v0 : Addr) (l0 : Addr) (w0 : Addr) (kv : ClassId) (kl : ClassId) (kw : ClassId) (q0 : Int32) (q1 : Int32) (q2 : Int32) (q3 : Int32) (vs : List Value) (ls : List Value) (vs1 : List Value) (ls1 : List Value) (i : Int32) (d0 : UInt64) (dx : UInt64) (dy : UInt64) (h0 : Heap) (n0 : Nat) (Z0 : n0 ≤ h0.size) (F_values_o0 : Fld Z h0 o0 "com/example/leeway/leeway/lp/SparseColumn" "values" "[D" (.ref v0)) (F_listed_o0 : Fld Z h0 o0 "com/example/leeway/leeway/lp/SparseColumn" "listed" "[Z" (.ref l0)) (F_rows_o0 : Fld Z h0 o0 "com/example/leeway/leeway/lp/SparseColumn" "rows" "[I" (.ref w0)) (F_count_o0 : Fld Z h0 o0 "com/example/leeway/leeway/lp/SparseColumn" "count" "I" (.int (1 : Int32))) (E_o0 : Exa Z h0 o0 "com/example/leeway/leeway/lp/SparseColumn") (V_v0 : Arv Z h0 v0 kv .double (4 : Int32) vs (.double (0 : UInt64))) (V_l0 : Arv Z h0 l0 kl .boolean (4 : Int32) ls (.int (0 : Int32))) (V_w0 : Arv Z h0 w0 kw .int (4 : Int32) [(.int q0), (.int q1), (.int q2), (.int q3)] (.int (0 : Int32))) (g_o0 : n0 ≤ o0) (g_v0 : n0 ≤ v0) (g_l0 : n0 ≤ l0) (g_w0 : n0 ≤ w0) (ne_o0_v0 : o0 ≠ v0) (ne_o0_l0 : o0 ≠ l0) (ne_o0_w0 : o0 ≠ w0) (ne_v0_l0 : v0 ≠ l0) (ne_v0_w0 : v0 ≠ w0) (ne_l0_w0 : l0 ≠ w0) (hix : ¬ i < 0 ∧ i < (4 : Int32)) (hrl : ls.getD i.toNatClampNeg (.int (0 : Int32)) = .int (0 : Int32)) (hrv : vs.getD i.toNatClampNeg (.double (0 : UInt64)) = .double dx) (hvl : i.toNatClampNeg < vs.length) (hll : i.toNatClampNeg < ls.length) (hls : (ls.set i.toNatClampNeg (.int (1 : Int32))) = ls1) (hvs : (vs.set i.toNatClampNeg (.double dy)) = vs1) (nn41 : Jvm.Free.Fl.NoNaN64 (FP.dadd dx d0)) (hq41 : (FP.dadd dx d0) = dy) :
    MetFree l (⟨"com/example/leeway/leeway/lp/SparseColumn", "add", "(ID)V"⟩ : MethodName) (head1 (Jvm.Cond.code (⟨"com/example/leeway/leeway/lp/SparseColumn", "add", "(ID)V"⟩ : MethodName) prog_87_method_6_code 4 none :: ws) ({ frames := 0, cells := 0, slots := 0, locals := 0 } : Room)) (fun a U => a = #[(.ref o0), (.int i), (.double d0)] ∧ Z.Warmed39 U.vm ∧ U.heap = h0) (fun _ _ _ _ _ => True) (fun _ U o U' => ∃ v L, o = .returned v ∧ Q_addN1 Z o0 v0 l0 w0 kv kl kw q0 q1 q2 q3 vs ls vs1 ls1 i d0 dx dy h0 n0 v U'.heap L ∧ FrameEnd U o U' L ({ frames := 0, cells := 0, slots := 0, locals := 0 } : Room).cells ({ frames := 0, cells := 0, slots := 0, locals := 0 } : Room).slots) := by
  refine MetFree.of_bodySF (plainFor_of_name pn_com_example_leeway_leeway_lp_SparseColumn) hisR ?_
  intro p e s m args below meth c s₁ Bd hml0 hP hK
  obtain ⟨rfl, hZ, hh⟩ := hP
  have hx := Bd.exec
  have hby := Bd.bytes
  have hml : c.maxLocals = 4 := hml0
  have hown : s.vm.findClass "com/example/leeway/leeway/lp/SparseColumn" = some m.cls := findClass_of_methodNamed Bd.named
  have hnm := (name_of_methodNamed Bd.named Bd.method).1
  have X0 : Stand p l e ({ frames := 0, cells := 0, slots := 0, locals := 0 } : Room) s m #[(.ref o0), (.int i), (.double d0)] below meth c s₁ [] 0 0 := Stand.of_body Bd
  have e0 : s₁.heap = h0 := by rw [← hh, Bd.state]; rfl
  have N0 := Fr.nil n0
  have pre0 : ∀ t, Steps p.tables e below (s₁.setTop (mkF m 0 #[.val (.ref o0), .val (.int i), .val (.double d0), .second] [])) t → Steps p.tables e below (s₁.setTop (entryFrame m #[(.ref o0), (.int i), (.double d0)] 4)) t := fun t k => castTop (ef_6_RID m o0 i d0) k
  obtain ⟨T1, X1, e1, st1⟩ := getF X0 hx hZ hown (host := "") (Or.inl (hw _ (List.mem_of_getElem? (i := 13) rfl))) Via.refl e0 F_listed_o0 (g := (mkF m 1 #[.val (.ref o0), .val (.int i), .val (.double d0), .second] [(.ref o0)])) rfl rfl (hb hby d6_1)
  obtain ⟨cq2, Arq2, -, Sq2, -, Hq2, -⟩ := id V_l0
  obtain ⟨T3, X3, e3, st3⟩ := getF X1 hx hZ hown (host := "") (Or.inl (hw _ (List.mem_of_getElem? (i := 13) rfl))) Via.refl e1 F_listed_o0 (g := (mkF m 10 #[.val (.ref o0), .val (.int i), .val (.double d0), .second] [(.ref o0)])) rfl rfl (hb hby d6_10)
  obtain ⟨cq4, Arq4, qq4, Sq4, Nq4, Hq4, Gq4⟩ := id V_l0
  obtain ⟨T5, h5, X5, e5, W5, st5⟩ := stZ X3 hx hZ e3 Arq4 (j := i) (inb_of Sq4 hix) (g := (mkF m 15 #[.val (.ref o0), .val (.int i), .val (.double d0), .second] [(.int (1 : Int32)), (.int i), (.ref l0)])) rfl rfl (hb hby d6_15)
  have f6 := F_values_o0.other W5 (Or.inl ne_o0_l0)
  have f7 := F_listed_o0.other W5 (Or.inl ne_o0_l0)
  have f8 := F_rows_o0.other W5 (Or.inl ne_o0_l0)
  have f9 := F_count_o0.other W5 (Or.inl ne_o0_l0)
  have f10 := E_o0.wr W5
  have f11 := V_v0.other W5 ne_v0_l0
  have f12 := V_w0.other W5 (Ne.symm ne_l0_w0)
  have K5 : Keep h0 h5 [l0, o0, w0, v0] := (Keep.refl h0 [l0, o0, w0, v0]).wr W5 (Or.inl (List.mem_of_getElem? (i := 0) rfl))
  have Zs5 := Nat.le_trans Z0 (Keep.of_wr W5).1
  have N5 := Fr.snoc X5 N0 g_l0
  have f13 : Arv Z h5 l0 kl .boolean (4 : Int32) (ls.set i.toNatClampNeg (.int (1 : Int32))) (.int (0 : Int32)) := Arv.set Arq4 qq4 Sq4 Nq4 Hq4 Gq4 (by decide) W5 i.toNatClampNeg rfl hll
  obtain ⟨T14, X14, e14, st14⟩ := getF X5 hx hZ hown (host := "") (Or.inl (hw _ (List.mem_of_getElem? (i := 16) rfl))) Via.refl e5 f8 (g := (mkF m 17 #[.val (.ref o0), .val (.int i), .val (.double d0), .second] [(.ref o0)])) rfl rfl (hb hby d6_17)
  obtain ⟨T15, X15, e15, st15⟩ := getF X14 hx hZ hown (host := "") (Or.inl (hw _ (List.mem_of_getElem? (i := 23) rfl))) Via.refl e14 f9 (g := (mkF m 22 #[.val (.ref o0), .val (.int i), .val (.double d0), .second] [(.ref o0), (.ref o0), (.ref w0)])) rfl rfl (hb hby d6_22)
  obtain ⟨T16, h16, X16, e16, W16, st16⟩ := putF X15 hx hZ hown (host := "") (Or.inl (hw _ (List.mem_of_getElem? (i := 23) rfl))) Via.refl e15 f9 f10 (Or.inl (hw _ (List.mem_of_getElem? (i := 24) rfl))) (hw _ (List.mem_of_getElem? (i := 1) rfl)) (ty := .int) (by decide) rfl rfl (g := (mkF m 28 #[.val (.ref o0), .val (.int i), .val (.double d0), .second] [(.int (2 : Int32)), (.ref o0), (.int (1 : Int32)), (.ref w0)])) rfl rfl (hb hby d6_28)
  have f17 := f6.other W16 (Or.inr (so_SparseColumn_values_count hw))
  have f18 := f7.other W16 (Or.inr (so_SparseColumn_listed_count hw))
  have f19 := f8.other W16 (Or.inr (so_SparseColumn_rows_count hw))
  have f20 := f10.wr W16
  have f21 := f11.other W16 (Ne.symm ne_o0_v0)
  have f22 := f13.other W16 (Ne.symm ne_o0_l0)
  have f23 := f12.other W16 (Ne.symm ne_o0_w0)
  have K16 : Keep h0 h16 [l0, o0, w0, v0] := K5.wr W16 (Or.inl (List.mem_of_getElem? (i := 1) rfl))
  have Zs16 := Nat.le_trans Zs5 (Keep.of_wr W16).1
  have N16 := Fr.snoc X16 N5 g_o0
  have f24 : Fld Z h16 o0 "com/example/leeway/leeway/lp/SparseColumn" "count" "I" (.int (2 : Int32)) := f9.same W16
  obtain ⟨cq25, Arq25, qq25, Sq25, Nq25, Hq25, Gq25⟩ := id f23
  obtain ⟨T26, h26, X26, e26, W26, st26⟩ := stI X16 hx hZ e16 Arq25 (j := (1 : Int32)) (inb_of Sq25 ⟨by decide, by decide⟩) (g := (mkF m 32 #[.val (.ref o0), .val (.int i), .val (.double d0), .second] [(.int i), (.int (1 : Int32)), (.ref w0)])) rfl rfl (hb hby d6_32)
  have f27 := f17.other W26 (Or.inl ne_o0_w0)
  have f28 := f18.other W26 (Or.inl ne_o0_w0)
  have f29 := f19.other W26 (Or.inl ne_o0_w0)
  have f30 := f24.other W26 (Or.inl ne_o0_w0)
  have f31 := f20.wr W26
  have f32 := f21.other W26 ne_v0_w0
  have f33 := f22.other W26 ne_l0_w0
  have K26 : Keep h0 h26 [l0, o0, w0, v0] := K16.wr W26 (Or.inl (List.mem_of_getElem? (i := 2) rfl))
  have Zs26 := Nat.le_trans Zs16 (Keep.of_wr W26).1
  have N26 := Fr.snoc X26 N16 g_w0
  have f34 : Arv Z h26 w0 kw .int (4 : Int32) [(.int q0), (.int i), (.int q2), (.int q3)] (.int (0 : Int32)) := Arv.set Arq25 qq25 Sq25 Nq25 Hq25 Gq25 rfl W26 1 rfl (Nat.le_of_ble_eq_true rfl)
  obtain ⟨T35, X35, e35, st35⟩ := getF X26 hx hZ hown (host := "") (Or.inl (hw _ (List.mem_of_getElem? (i := 10) rfl))) Via.refl e26 f27 (g := (mkF m 34 #[.val (.ref o0), .val (.int i), .val (.double d0), .second] [(.ref o0)])) rfl rfl (hb hby d6_34)
  obtain ⟨cq36, Arq36, -, Sq36, -, Hq36, -⟩ := id f32
  obtain ⟨cq37, Arq37, qq37, Sq37, Nq37, Hq37, Gq37⟩ := id f32
  obtain ⟨T38, h38, X38, e38, W38, st38⟩ := stD X35 hx hZ e35 Arq37 (j := i) (inb_of Sq37 hix) (g := (mkF m 42 #[.val (.ref o0), .val (.int i), .val (.double d0), .second] [(.double dy), (.int i), (.ref v0)])) rfl rfl (hb hby d6_42)
  have f39 := f27.other W38 (Or.inl ne_o0_v0)
  have f40 := f28.other W38 (Or.inl ne_o0_v0)
  have f41 := f29.other W38 (Or.inl ne_o0_v0)
  have f42 := f30.other W38 (Or.inl ne_o0_v0)
  have f43 := f31.wr W38
  have f44 := f33.other W38 (Ne.symm ne_v0_l0)
  have f45 := f34.other W38 (Ne.symm ne_v0_w0)
  have K38 : Keep h0 h38 [l0, o0, w0, v0] := K26.wr W38 (Or.inl (List.mem_of_getElem? (i := 3) rfl))
  have Zs38 := Nat.le_trans Zs26 (Keep.of_wr W38).1
  have N38 := Fr.snoc X38 N26 g_v0
  have f46 : Arv Z h38 v0 kv .double (4 : Int32) (vs.set i.toNatClampNeg (.double dy)) (.double (0 : UInt64)) := Arv.set Arq37 qq37 Sq37 Nq37 Hq37 Gq37 rfl W38 i.toNatClampNeg rfl hvl
  have f47 : Arv Z h38 v0 kv .double (4 : Int32) vs1 (.double (0 : UInt64)) := (hvs : (vs.set i.toNatClampNeg (.double dy)) = vs1) ▸ f46
  have f48 : Arv Z h38 l0 kl .boolean (4 : Int32) ls1 (.int (0 : Int32)) := (hls : (ls.set i.toNatClampNeg (.int (1 : Int32))) = ls1) ▸ f44
  obtain ⟨fs, hr, hrun, hended, hW, hsame⟩ := X38.leave (v := none) (fun _ => rfl)
  refine ⟨_, _, pre0 _ ?_, hrun, hended, _, _, rfl, ?_, ⟨_, rfl⟩, hW, hsame.mono (by decide) (by decide)⟩
  · show Steps p.tables e below (s₁.setTop (mkF m 0 #[.val (.ref o0), .val (.int i), .val (.double d0), .second] [])) _
    refine XS.aloadN X0.here hx rfl (hb hby d6_0) rfl rfl ?_
    show Steps p.tables e below (s₁.setTop (mkF m 1 #[.val (.ref o0), .val (.int i), .val (.double d0), .second] [(.ref o0)])) _
    refine st1 _ ?_
    show Steps p.tables e below (T1.setTop (mkF m 4 #[.val (.ref o0), .val (.int i), .val (.double d0), .second] [(.ref l0)])) _
    refine XS.iloadN X1.here hx rfl (hb hby d6_4) rfl ?_
    show Steps p.tables e below (T1.setTop (mkF m 5 #[.val (.ref o0), .val (.int i), .val (.double d0), .second] [(.int i), (.ref l0)])) _
    refine X1.baloadBooleans hx (j := i) (v := (.int (0 : Int32))) (by rw [e1]; exact Arq2.1) (State.isArrayOf_alike hZ.alike Arq2.2.1) Arq2.2.2 (inb_of Sq2 hix) (Has.at Hq2 (inb_of Sq2 hix) hrl) (g := (mkF m 5 #[.val (.ref o0), .val (.int i), .val (.double d0), .second] [(.int i), (.ref l0)])) rfl rfl (hb hby d6_5) _ ?_
    show Steps p.tables e below (T1.setTop (mkF m 6 #[.val (.ref o0), .val (.int i), .val (.double d0), .second] [(.int (0 : Int32))])) _
    refine XS.ifNo X1.here hx rfl (hb hby d6_6) rfl ((if0 _ _).trans (teq (by decide : (0 : Int32) = (0 : Int32))).2) ?_
    show Steps p.tables e below (T1.setTop (mkF m 9 #[.val (.ref o0), .val (.int i), .val (.double d0), .second] [])) _
    refine XS.aloadN X1.here hx rfl (hb hby d6_9) rfl rfl ?_
    show Steps p.tables e below (T1.setTop (mkF m 10 #[.val (.ref o0), .val (.int i), .val (.double d0), .second] [(.ref o0)])) _
    refine st3 _ ?_
    show Steps p.tables e below (T3.setTop (mkF m 13 #[.val (.ref o0), .val (.int i), .val (.double d0), .second] [(.ref l0)])) _
    refine XS.iloadN X3.here hx rfl (hb hby d6_13) rfl ?_
    show Steps p.tables e below (T3.setTop (mkF m 14 #[.val (.ref o0), .val (.int i), .val (.double d0), .second] [(.int i), (.ref l0)])) _
    refine XS.iconst X3.here hx rfl (hb hby d6_14) ?_
    show Steps p.tables e below (T3.setTop (mkF m 15 #[.val (.ref o0), .val (.int i), .val (.double d0), .second] [(.int (1 : Int32)), (.int i), (.ref l0)])) _
    refine st5 _ ?_
    show Steps p.tables e below (T5.setTop (mkF m 16 #[.val (.ref o0), .val (.int i), .val (.double d0), .second] [])) _
    refine XS.aloadN X5.here hx rfl (hb hby d6_16) rfl rfl ?_
    show Steps p.tables e below (T5.setTop (mkF m 17 #[.val (.ref o0), .val (.int i), .val (.double d0), .second] [(.ref o0)])) _
    refine st14 _ ?_
    show Steps p.tables e below (T14.setTop (mkF m 20 #[.val (.ref o0), .val (.int i), .val (.double d0), .second] [(.ref w0)])) _
    refine XS.aloadN X14.here hx rfl (hb hby d6_20) rfl rfl ?_
    show Steps p.tables e below (T14.setTop (mkF m 21 #[.val (.ref o0), .val (.int i), .val (.double d0), .second] [(.ref o0), (.ref w0)])) _
    refine XS.dup X14.here hx rfl (hb hby d6_21) rfl rfl ?_
    show Steps p.tables e below (T14.setTop (mkF m 22 #[.val (.ref o0), .val (.int i), .val (.double d0), .second] [(.ref o0), (.ref o0), (.ref w0)])) _
    refine st15 _ ?_
    show Steps p.tables e below (T15.setTop (mkF m 25 #[.val (.ref o0), .val (.int i), .val (.double d0), .second] [(.int (1 : Int32)), (.ref o0), (.ref w0)])) _
    refine XS.dupX1 X15.here hx rfl (hb hby d6_25) rfl rfl rfl ?_
    show Steps p.tables e below (T15.setTop (mkF m 26 #[.val (.ref o0), .val (.int i), .val (.double d0), .second] [(.int (1 : Int32)), (.ref o0), (.int (1 : Int32)), (.ref w0)])) _
    refine XS.iconst X15.here hx rfl (hb hby d6_26) ?_
    show Steps p.tables e below (T15.setTop (mkF m 27 #[.val (.ref o0), .val (.int i), .val (.double d0), .second] [(.int (1 : Int32)), (.int (1 : Int32)), (.ref o0), (.int (1 : Int32)), (.ref w0)])) _
    refine XS.iadd X15.here hx rfl (hb hby d6_27) rfl ?_
    show Steps p.tables e below (T15.setTop (mkF m 28 #[.val (.ref o0), .val (.int i), .val (.double d0), .second] [(.int ((1 : Int32) + (1 : Int32))), (.ref o0), (.int (1 : Int32)), (.ref w0)])) _
    rw [show ((1 : Int32) + (1 : Int32)) = (2 : Int32) by decide]
    show Steps p.tables e below (T15.setTop (mkF m 28 #[.val (.ref o0), .val (.int i), .val (.double d0), .second] [(.int (2 : Int32)), (.ref o0), (.int (1 : Int32)), (.ref w0)])) _
    refine st16 _ ?_
    show Steps p.tables e below (T16.setTop (mkF m 31 #[.val (.ref o0), .val (.int i), .val (.double d0), .second] [(.int (1 : Int32)), (.ref w0)])) _
    refine XS.iloadN X16.here hx rfl (hb hby d6_31) rfl ?_
    show Steps p.tables e below (T16.setTop (mkF m 32 #[.val (.ref o0), .val (.int i), .val (.double d0), .second] [(.int i), (.int (1 : Int32)), (.ref w0)])) _
    refine st26 _ ?_
    show Steps p.tables e below (T26.setTop (mkF m 33 #[.val (.ref o0), .val (.int i), .val (.double d0), .second] [])) _
    refine XS.aloadN X26.here hx rfl (hb hby d6_33) rfl rfl ?_
    show Steps p.tables e below (T26.setTop (mkF m 34 #[.val (.ref o0), .val (.int i), .val (.double d0), .second] [(.ref o0)])) _
    refine st35 _ ?_
    show Steps p.tables e below (T35.setTop (mkF m 37 #[.val (.ref o0), .val (.int i), .val (.double d0), .second] [(.ref v0)])) _
    refine XS.iloadN X35.here hx rfl (hb hby d6_37) rfl ?_
    show Steps p.tables e below (T35.setTop (mkF m 38 #[.val (.ref o0), .val (.int i), .val (.double d0), .second] [(.int i), (.ref v0)])) _
    jvm_step X35.here [X35.here.top, hx, (hb hby d6_38), Value.category]
    show Steps p.tables e below (T35.setTop (mkF m 39 #[.val (.ref o0), .val (.int i), .val (.double d0), .second] [(.int i), (.ref v0), (.int i), (.ref v0)])) _
    refine X35.daload hx (j := i) (v := (.double dx)) (by rw [e35]; exact Arq36.1) (State.isArrayOf_alike hZ.alike Arq36.2.1) Arq36.2.2 (inb_of Sq36 hix) (Has.at Hq36 (inb_of Sq36 hix) hrv) (g := (mkF m 39 #[.val (.ref o0), .val (.int i), .val (.double d0), .second] [(.int i), (.ref v0), (.int i), (.ref v0)])) rfl rfl (hb hby d6_39) _ ?_
    show Steps p.tables e below (T35.setTop (mkF m 40 #[.val (.ref o0), .val (.int i), .val (.double d0), .second] [(.double dx), (.int i), (.ref v0)])) _
    refine XS.dloadN X35.here hx rfl (hb hby d6_40) rfl ?_
    show Steps p.tables e below (T35.setTop (mkF m 41 #[.val (.ref o0), .val (.int i), .val (.double d0), .second] [(.double d0), (.double dx), (.int i), (.ref v0)])) _
    refine XS.daddS X35.here hx rfl (hb hby d6_41) rfl nn41 (v := dy) hq41 ?_
    show Steps p.tables e below (T35.setTop (mkF m 42 #[.val (.ref o0), .val (.int i), .val (.double d0), .second] [(.double dy), (.int i), (.ref v0)])) _
    refine st38 _ ?_
    show Steps p.tables e below (T38.setTop (mkF m 43 #[.val (.ref o0), .val (.int i), .val (.double d0), .second] [])) _
    exact X38.returnOut hx Bd.returns (hb hby d6_43) hr
  · show Q_addN1 Z o0 v0 l0 w0 kv kl kw q0 q1 q2 q3 vs ls vs1 ls1 i d0 dx dy h0 n0 _ T38.heap _
    rw [e38]
    exact ⟨rfl, N38, K38, f43, f39, f40, f41, f42, f47, f48, f45⟩
def Q_addN2 (Z : State) (o0 : Addr) (v0 : Addr) (l0 : Addr) (w0 : Addr) (kv : ClassId) (kl : ClassId) (kw : ClassId) (q0 : Int32) (q1 : Int32) (q2 : Int32) (q3 : Int32) (vs : List Value) (ls : List Value) (vs1 : List Value) (ls1 : List Value) (i : Int32) (d0 : UInt64) (dx : UInt64) (dy : UInt64) (h0 : Heap) (n0 : Nat) (v : Option Value) (h : Heap) (L : List Loc) : Prop := v = none ∧ Fr n0 L ∧ Keep h0 h [l0, o0, w0, v0] ∧ Exa Z h o0 "com/example/leeway/leeway/lp/SparseColumn" ∧ Fld Z h o0 "com/example/leeway/leeway/lp/SparseColumn" "values" "[D" (.ref v0) ∧ Fld Z h o0 "com/example/leeway/leeway/lp/SparseColumn" "listed" "[Z" (.ref l0) ∧ Fld Z h o0 "com/example/leeway/leeway/lp/SparseColumn" "rows" "[I" (.ref w0) ∧ Fld Z h o0 "com/example/leeway/leeway/lp/SparseColumn" "count" "I" (.int (3 : Int32)) ∧ Arv Z h v0 kv .double (4 : Int32) vs1 (.double (0 : UInt64)) ∧ Arv Z h l0 kl .boolean (4 : Int32) ls1 (.int (0 : Int32)) ∧ Arv Z h w0 kw .int (4 : Int32) [(.int q0), (.int q1), (.int i), (.int q3)] (.int (0 : Int32))
set_option maxRecDepth 65536 in
set_option maxHeartbeats 40000000 in
theorem addN2 (l : Launch) (Z : State) (a0 : Array Value) (hw : ∀ d ∈ tables_1, d.before a0 Z = true) (ws : List Jvm.Cond) (o0 : Addr) (v0 : Addr) (l0 : Addr) (w0 : Addr) (kv : ClassId) (kl : ClassId) (kw : ClassId) (q0 : Int32) (q1 : Int32) (q2 : Int32) (q3 : Int32) (vs : List Value) (ls : List Value) (vs1 : List Value) (ls1 : List Value) (i : Int32) (d0 : UInt64) (dx : UInt64) (dy : UInt64) (h0 : Heap) (n0 : Nat) (Z0 : n0 ≤ h0.size) (F_values_o0 : Fld Z h0 o0 "com/example/leeway/leeway/lp/SparseColumn" "values" "[D" (.ref v0)) (F_listed_o0 : Fld Z h0 o0 "com/example/leeway/leeway/lp/SparseColumn" "listed" "[Z" (.ref l0)) (F_rows_o0 : Fld Z h0 o0 "com/example/leeway/leeway/lp/SparseColumn" "rows" "[I" (.ref w0)) (F_count_o0 : Fld Z h0 o0 "com/example/leeway/leeway/lp/SparseColumn" "count" "I" (.int (2 : Int32))) (E_o0 : Exa Z h0 o0 "com/example/leeway/leeway/lp/SparseColumn") (V_v0 : Arv Z h0 v0 kv .double (4 : Int32) vs (.double (0 : UInt64))) (V_l0 : Arv Z h0 l0 kl .boolean (4 : Int32) ls (.int (0 : Int32))) (V_w0 : Arv Z h0 w0 kw .int (4 : Int32) [(.int q0), (.int q1), (.int q2), (.int q3)] (.int (0 : Int32))) (g_o0 : n0 ≤ o0) (g_v0 : n0 ≤ v0) (g_l0 : n0 ≤ l0) (g_w0 : n0 ≤ w0) (ne_o0_v0 : o0 ≠ v0) (ne_o0_l0 : o0 ≠ l0) (ne_o0_w0 : o0 ≠ w0) (ne_v0_l0 : v0 ≠ l0) (ne_v0_w0 : v0 ≠ w0) (ne_l0_w0 : l0 ≠ w0) (hix : ¬ i < 0 ∧ i < (4 : Int32)) (hrl : ls.getD i.toNatClampNeg (.int (0 : Int32)) = .int (0 : Int32)) (hrv : vs.getD i.toNatClampNeg (.double (0 : UInt64)) = .double dx) (hvl : i.toNatClampNeg < vs.length) (hll : i.toNatClampNeg < ls.length) (hls : (ls.set i.toNatClampNeg (.int (1 : Int32))) = ls1) (hvs : (vs.set i.toNatClampNeg (.double dy)) = vs1) (nn41 : Jvm.Free.Fl.NoNaN64 (FP.dadd dx d0)) (hq41 : (FP.dadd dx d0) = dy) :
    MetFree l (⟨"com/example/leeway/leeway/lp/SparseColumn", "add", "(ID)V"⟩ : MethodName) (head1 (Jvm.Cond.code (⟨"com/example/leeway/leeway/lp/SparseColumn", "add", "(ID)V"⟩ : MethodName) prog_87_method_6_code 4 none :: ws) ({ frames := 0, cells := 0, slots := 0, locals := 0 } : Room)) (fun a U => a = #[(.ref o0), (.int i), (.double d0)] ∧ Z.Warmed39 U.vm ∧ U.heap = h0) (fun _ _ _ _ _ => True) (fun _ U o U' => ∃ v L, o = .returned v ∧ Q_addN2 Z o0 v0 l0 w0 kv kl kw q0 q1 q2 q3 vs ls vs1 ls1 i d0 dx dy h0 n0 v U'.heap L ∧ FrameEnd U o U' L ({ frames := 0, cells := 0, slots := 0, locals := 0 } : Room).cells ({ frames := 0, cells := 0, slots := 0, locals := 0 } : Room).slots) := by
  refine MetFree.of_bodySF (plainFor_of_name pn_com_example_leeway_leeway_lp_SparseColumn) hisR ?_
  intro p e s m args below meth c s₁ Bd hml0 hP hK
  obtain ⟨rfl, hZ, hh⟩ := hP
  have hx := Bd.exec
  have hby := Bd.bytes
  have hml : c.maxLocals = 4 := hml0
  have hown : s.vm.findClass "com/example/leeway/leeway/lp/SparseColumn" = some m.cls := findClass_of_methodNamed Bd.named
  have hnm := (name_of_methodNamed Bd.named Bd.method).1
  have X0 : Stand p l e ({ frames := 0, cells := 0, slots := 0, locals := 0 } : Room) s m #[(.ref o0), (.int i), (.double d0)] below meth c s₁ [] 0 0 := Stand.of_body Bd
  have e0 : s₁.heap = h0 := by rw [← hh, Bd.state]; rfl
  have N0 := Fr.nil n0
  have pre0 : ∀ t, Steps p.tables e below (s₁.setTop (mkF m 0 #[.val (.ref o0), .val (.int i), .val (.double d0), .second] [])) t → Steps p.tables e below (s₁.setTop (entryFrame m #[(.ref o0), (.int i), (.double d0)] 4)) t := fun t k => castTop (ef_6_RID m o0 i d0) k
  obtain ⟨T1, X1, e1, st1⟩ := getF X0 hx hZ hown (host := "") (Or.inl (hw _ (List.mem_of_getElem? (i := 13) rfl))) Via.refl e0 F_listed_o0 (g := (mkF m 1 #[.val (.ref o0), .val (.int i), .val (.double d0), .second] [(.ref o0)])) rfl rfl (hb hby d6_1)
  obtain ⟨cq2, Arq2, -, Sq2, -, Hq2, -⟩ := id V_l0
  obtain ⟨T3, X3, e3, st3⟩ := getF X1 hx hZ hown (host := "") (Or.inl (hw _ (List.mem_of_getElem? (i := 13) rfl))) Via.refl e1 F_listed_o0 (g := (mkF m 10 #[.val (.ref o0), .val (.int i), .val (.double d0), .second] [(.ref o0)])) rfl rfl (hb hby d6_10)
  obtain ⟨cq4, Arq4, qq4, Sq4, Nq4, Hq4, Gq4⟩ := id V_l0
  obtain ⟨T5, h5, X5, e5, W5, st5⟩ := stZ X3 hx hZ e3 Arq4 (j := i) (inb_of Sq4 hix) (g := (mkF m 15 #[.val (.ref o0), .val (.int i), .val (.double d0), .second] [(.int (1 : Int32)), (.int i), (.ref l0)])) rfl rfl (hb hby d6_15)
  have f6 := F_values_o0.other W5 (Or.inl ne_o0_l0)
  have f7 := F_listed_o0.other W5 (Or.inl ne_o0_l0)
  have f8 := F_rows_o0.other W5 (Or.inl ne_o0_l0)
  have f9 := F_count_o0.other W5 (Or.inl ne_o0_l0)
  have f10 := E_o0.wr W5
  have f11 := V_v0.other W5 ne_v0_l0
  have f12 := V_w0.other W5 (Ne.symm ne_l0_w0)
  have K5 : Keep h0 h5 [l0, o0, w0, v0] := (Keep.refl h0 [l0, o0, w0, v0]).wr W5 (Or.inl (List.mem_of_getElem? (i := 0) rfl))
  have Zs5 := Nat.le_trans Z0 (Keep.of_wr W5).1
  have N5 := Fr.snoc X5 N0 g_l0
  have f13 : Arv Z h5 l0 kl .boolean (4 : Int32) (ls.set i.toNatClampNeg (.int (1 : Int32))) (.int (0 : Int32)) := Arv.set Arq4 qq4 Sq4 Nq4 Hq4 Gq4 (by decide) W5 i.toNatClampNeg rfl hll
  obtain ⟨T14, X14, e14, st14⟩ := getF X5 hx hZ hown (host := "") (Or.inl (hw _ (List.mem_of_getElem? (i := 16) rfl))) Via.refl e5 f8 (g := (mkF m 17 #[.val (.ref o0), .val (.int i), .val (.double d0), .second] [(.ref o0)])) rfl rfl (hb hby d6_17)
  obtain ⟨T15, X15, e15, st15⟩ := getF X14 hx hZ hown (host := "") (Or.inl (hw _ (List.mem_of_getElem? (i := 23) rfl))) Via.refl e14 f9 (g := (mkF m 22 #[.val (.ref o0), .val (.int i), .val (.double d0), .second] [(.ref o0), (.ref o0), (.ref w0)])) rfl rfl (hb hby d6_22)
  obtain ⟨T16, h16, X16, e16, W16, st16⟩ := putF X15 hx hZ hown (host := "") (Or.inl (hw _ (List.mem_of_getElem? (i := 23) rfl))) Via.refl e15 f9 f10 (Or.inl (hw _ (List.mem_of_getElem? (i := 24) rfl))) (hw _ (List.mem_of_getElem? (i := 1) rfl)) (ty := .int) (by decide) rfl rfl (g := (mkF m 28 #[.val (.ref o0), .val (.int i), .val (.double d0), .second] [(.int (3 : Int32)), (.ref o0), (.int (2 : Int32)), (.ref w0)])) rfl rfl (hb hby d6_28)
  have f17 := f6.other W16 (Or.inr (so_SparseColumn_values_count hw))
  have f18 := f7.other W16 (Or.inr (so_SparseColumn_listed_count hw))
  have f19 := f8.other W16 (Or.inr (so_SparseColumn_rows_count hw))
  have f20 := f10.wr W16
  have f21 := f11.other W16 (Ne.symm ne_o0_v0)
  have f22 := f13.other W16 (Ne.symm ne_o0_l0)
  have f23 := f12.other W16 (Ne.symm ne_o0_w0)
  have K16 : Keep h0 h16 [l0, o0, w0, v0] := K5.wr W16 (Or.inl (List.mem_of_getElem? (i := 1) rfl))
  have Zs16 := Nat.le_trans Zs5 (Keep.of_wr W16).1
  have N16 := Fr.snoc X16 N5 g_o0
  have f24 : Fld Z h16 o0 "com/example/leeway/leeway/lp/SparseColumn" "count" "I" (.int (3 : Int32)) := f9.same W16
  obtain ⟨cq25, Arq25, qq25, Sq25, Nq25, Hq25, Gq25⟩ := id f23
  obtain ⟨T26, h26, X26, e26, W26, st26⟩ := stI X16 hx hZ e16 Arq25 (j := (2 : Int32)) (inb_of Sq25 ⟨by decide, by decide⟩) (g := (mkF m 32 #[.val (.ref o0), .val (.int i), .val (.double d0), .second] [(.int i), (.int (2 : Int32)), (.ref w0)])) rfl rfl (hb hby d6_32)
  have f27 := f17.other W26 (Or.inl ne_o0_w0)
  have f28 := f18.other W26 (Or.inl ne_o0_w0)
  have f29 := f19.other W26 (Or.inl ne_o0_w0)
  have f30 := f24.other W26 (Or.inl ne_o0_w0)
  have f31 := f20.wr W26
  have f32 := f21.other W26 ne_v0_w0
  have f33 := f22.other W26 ne_l0_w0
  have K26 : Keep h0 h26 [l0, o0, w0, v0] := K16.wr W26 (Or.inl (List.mem_of_getElem? (i := 2) rfl))
  have Zs26 := Nat.le_trans Zs16 (Keep.of_wr W26).1
  have N26 := Fr.snoc X26 N16 g_w0
  have f34 : Arv Z h26 w0 kw .int (4 : Int32) [(.int q0), (.int q1), (.int i), (.int q3)] (.int (0 : Int32)) := Arv.set Arq25 qq25 Sq25 Nq25 Hq25 Gq25 rfl W26 2 rfl (Nat.le_of_ble_eq_true rfl)
  obtain ⟨T35, X35, e35, st35⟩ := getF X26 hx hZ hown (host := "") (Or.inl (hw _ (List.mem_of_getElem? (i := 10) rfl))) Via.refl e26 f27 (g := (mkF m 34 #[.val (.ref o0), .val (.int i), .val (.double d0), .second] [(.ref o0)])) rfl rfl (hb hby d6_34)
  obtain ⟨cq36, Arq36, -, Sq36, -, Hq36, -⟩ := id f32
  obtain ⟨cq37, Arq37, qq37, Sq37, Nq37, Hq37, Gq37⟩ := id f32
  obtain ⟨T38, h38, X38, e38, W38, st38⟩ := stD X35 hx hZ e35 Arq37 (j := i) (inb_of Sq37 hix) (g := (mkF m 42 #[.val (.ref o0), .val (.int i), .val (.double d0), .second] [(.double dy), (.int i), (.ref v0)])) rfl rfl (hb hby d6_42)
  have f39 := f27.other W38 (Or.inl ne_o0_v0)
  have f40 := f28.other W38 (Or.inl ne_o0_v0)
  have f41 := f29.other W38 (Or.inl ne_o0_v0)
  have f42 := f30.other W38 (Or.inl ne_o0_v0)
  have f43 := f31.wr W38
  have f44 := f33.other W38 (Ne.symm ne_v0_l0)
  have f45 := f34.other W38 (Ne.symm ne_v0_w0)
  have K38 : Keep h0 h38 [l0, o0, w0, v0] := K26.wr W38 (Or.inl (List.mem_of_getElem? (i := 3) rfl))
  have Zs38 := Nat.le_trans Zs26 (Keep.of_wr W38).1
  have N38 := Fr.snoc X38 N26 g_v0
  have f46 : Arv Z h38 v0 kv .double (4 : Int32) (vs.set i.toNatClampNeg (.double dy)) (.double (0 : UInt64)) := Arv.set Arq37 qq37 Sq37 Nq37 Hq37 Gq37 rfl W38 i.toNatClampNeg rfl hvl
  have f47 : Arv Z h38 v0 kv .double (4 : Int32) vs1 (.double (0 : UInt64)) := (hvs : (vs.set i.toNatClampNeg (.double dy)) = vs1) ▸ f46
  have f48 : Arv Z h38 l0 kl .boolean (4 : Int32) ls1 (.int (0 : Int32)) := (hls : (ls.set i.toNatClampNeg (.int (1 : Int32))) = ls1) ▸ f44
  obtain ⟨fs, hr, hrun, hended, hW, hsame⟩ := X38.leave (v := none) (fun _ => rfl)
  refine ⟨_, _, pre0 _ ?_, hrun, hended, _, _, rfl, ?_, ⟨_, rfl⟩, hW, hsame.mono (by decide) (by decide)⟩
  · show Steps p.tables e below (s₁.setTop (mkF m 0 #[.val (.ref o0), .val (.int i), .val (.double d0), .second] [])) _
    refine XS.aloadN X0.here hx rfl (hb hby d6_0) rfl rfl ?_
    show Steps p.tables e below (s₁.setTop (mkF m 1 #[.val (.ref o0), .val (.int i), .val (.double d0), .second] [(.ref o0)])) _
    refine st1 _ ?_
    show Steps p.tables e below (T1.setTop (mkF m 4 #[.val (.ref o0), .val (.int i), .val (.double d0), .second] [(.ref l0)])) _
    refine XS.iloadN X1.here hx rfl (hb hby d6_4) rfl ?_
    show Steps p.tables e below (T1.setTop (mkF m 5 #[.val (.ref o0), .val (.int i), .val (.double d0), .second] [(.int i), (.ref l0)])) _
    refine X1.baloadBooleans hx (j := i) (v := (.int (0 : Int32))) (by rw [e1]; exact Arq2.1) (State.isArrayOf_alike hZ.alike Arq2.2.1) Arq2.2.2 (inb_of Sq2 hix) (Has.at Hq2 (inb_of Sq2 hix) hrl) (g := (mkF m 5 #[.val (.ref o0), .val (.int i), .val (.double d0), .second] [(.int i), (.ref l0)])) rfl rfl (hb hby d6_5) _ ?_
    show Steps p.tables e below (T1.setTop (mkF m 6 #[.val (.ref o0), .val (.int i), .val (.double d0), .second] [(.int (0 : Int32))])) _
    refine XS.ifNo X1.here hx rfl (hb hby d6_6) rfl ((if0 _ _).trans (teq (by decide : (0 : Int32) = (0 : Int32))).2) ?_
    show Steps p.tables e below (T1.setTop (mkF m 9 #[.val (.ref o0), .val (.int i), .val (.double d0), .second] [])) _
    refine XS.aloadN X1.here hx rfl (hb hby d6_9) rfl rfl ?_
    show Steps p.tables e below (T1.setTop (mkF m 10 #[.val (.ref o0), .val (.int i), .val (.double d0), .second] [(.ref o0)])) _
    refine st3 _ ?_
    show Steps p.tables e below (T3.setTop (mkF m 13 #[.val (.ref o0), .val (.int i), .val (.double d0), .second] [(.ref l0)])) _
    refine XS.iloadN X3.here hx rfl (hb hby d6_13) rfl ?_
    show Steps p.tables e below (T3.setTop (mkF m 14 #[.val (.ref o0), .val (.int i), .val (.double d0), .second] [(.int i), (.ref l0)])) _
    refine XS.iconst X3.here hx rfl (hb hby d6_14) ?_
    show Steps p.tables e below (T3.setTop (mkF m 15 #[.val (.ref o0), .val (.int i), .val (.double d0), .second] [(.int (1 : Int32)), (.int i), (.ref l0)])) _
    refine st5 _ ?_
    show Steps p.tables e below (T5.setTop (mkF m 16 #[.val (.ref o0), .val (.int i), .val (.double d0), .second] [])) _
    refine XS.aloadN X5.here hx rfl (hb hby d6_16) rfl rfl ?_
    show Steps p.tables e below (T5.setTop (mkF m 17 #[.val (.ref o0), .val (.int i), .val (.double d0), .second] [(.ref o0)])) _
    refine st14 _ ?_
    show Steps p.tables e below (T14.setTop (mkF m 20 #[.val (.ref o0), .val (.int i), .val (.double d0), .second] [(.ref w0)])) _
    refine XS.aloadN X14.here hx rfl (hb hby d6_20) rfl rfl ?_
    show Steps p.tables e below (T14.setTop (mkF m 21 #[.val (.ref o0), .val (.int i), .val (.double d0), .second] [(.ref o0), (.ref w0)])) _
    refine XS.dup X14.here hx rfl (hb hby d6_21) rfl rfl ?_
    show Steps p.tables e below (T14.setTop (mkF m 22 #[.val (.ref o0), .val (.int i), .val (.double d0), .second] [(.ref o0), (.ref o0), (.ref w0)])) _
    refine st15 _ ?_
    show Steps p.tables e below (T15.setTop (mkF m 25 #[.val (.ref o0), .val (.int i), .val (.double d0), .second] [(.int (2 : Int32)), (.ref o0), (.ref w0)])) _
    refine XS.dupX1 X15.here hx rfl (hb hby d6_25) rfl rfl rfl ?_
    show Steps p.tables e below (T15.setTop (mkF m 26 #[.val (.ref o0), .val (.int i), .val (.double d0), .second] [(.int (2 : Int32)), (.ref o0), (.int (2 : Int32)), (.ref w0)])) _
    refine XS.iconst X15.here hx rfl (hb hby d6_26) ?_
    show Steps p.tables e below (T15.setTop (mkF m 27 #[.val (.ref o0), .val (.int i), .val (.double d0), .second] [(.int (1 : Int32)), (.int (2 : Int32)), (.ref o0), (.int (2 : Int32)), (.ref w0)])) _
    refine XS.iadd X15.here hx rfl (hb hby d6_27) rfl ?_
    show Steps p.tables e below (T15.setTop (mkF m 28 #[.val (.ref o0), .val (.int i), .val (.double d0), .second] [(.int ((2 : Int32) + (1 : Int32))), (.ref o0), (.int (2 : Int32)), (.ref w0)])) _
    rw [show ((2 : Int32) + (1 : Int32)) = (3 : Int32) by decide]
    show Steps p.tables e below (T15.setTop (mkF m 28 #[.val (.ref o0), .val (.int i), .val (.double d0), .second] [(.int (3 : Int32)), (.ref o0), (.int (2 : Int32)), (.ref w0)])) _
    refine st16 _ ?_
    show Steps p.tables e below (T16.setTop (mkF m 31 #[.val (.ref o0), .val (.int i), .val (.double d0), .second] [(.int (2 : Int32)), (.ref w0)])) _
    refine XS.iloadN X16.here hx rfl (hb hby d6_31) rfl ?_
    show Steps p.tables e below (T16.setTop (mkF m 32 #[.val (.ref o0), .val (.int i), .val (.double d0), .second] [(.int i), (.int (2 : Int32)), (.ref w0)])) _
    refine st26 _ ?_
    show Steps p.tables e below (T26.setTop (mkF m 33 #[.val (.ref o0), .val (.int i), .val (.double d0), .second] [])) _
    refine XS.aloadN X26.here hx rfl (hb hby d6_33) rfl rfl ?_
    show Steps p.tables e below (T26.setTop (mkF m 34 #[.val (.ref o0), .val (.int i), .val (.double d0), .second] [(.ref o0)])) _
    refine st35 _ ?_
    show Steps p.tables e below (T35.setTop (mkF m 37 #[.val (.ref o0), .val (.int i), .val (.double d0), .second] [(.ref v0)])) _
    refine XS.iloadN X35.here hx rfl (hb hby d6_37) rfl ?_
    show Steps p.tables e below (T35.setTop (mkF m 38 #[.val (.ref o0), .val (.int i), .val (.double d0), .second] [(.int i), (.ref v0)])) _
    jvm_step X35.here [X35.here.top, hx, (hb hby d6_38), Value.category]
    show Steps p.tables e below (T35.setTop (mkF m 39 #[.val (.ref o0), .val (.int i), .val (.double d0), .second] [(.int i), (.ref v0), (.int i), (.ref v0)])) _
    refine X35.daload hx (j := i) (v := (.double dx)) (by rw [e35]; exact Arq36.1) (State.isArrayOf_alike hZ.alike Arq36.2.1) Arq36.2.2 (inb_of Sq36 hix) (Has.at Hq36 (inb_of Sq36 hix) hrv) (g := (mkF m 39 #[.val (.ref o0), .val (.int i), .val (.double d0), .second] [(.int i), (.ref v0), (.int i), (.ref v0)])) rfl rfl (hb hby d6_39) _ ?_
    show Steps p.tables e below (T35.setTop (mkF m 40 #[.val (.ref o0), .val (.int i), .val (.double d0), .second] [(.double dx), (.int i), (.ref v0)])) _
    refine XS.dloadN X35.here hx rfl (hb hby d6_40) rfl ?_
    show Steps p.tables e below (T35.setTop (mkF m 41 #[.val (.ref o0), .val (.int i), .val (.double d0), .second] [(.double d0), (.double dx), (.int i), (.ref v0)])) _
    refine XS.daddS X35.here hx rfl (hb hby d6_41) rfl nn41 (v := dy) hq41 ?_
    show Steps p.tables e below (T35.setTop (mkF m 42 #[.val (.ref o0), .val (.int i), .val (.double d0), .second] [(.double dy), (.int i), (.ref v0)])) _
    refine st38 _ ?_
    show Steps p.tables e below (T38.setTop (mkF m 43 #[.val (.ref o0), .val (.int i), .val (.double d0), .second] [])) _
    exact X38.returnOut hx Bd.returns (hb hby d6_43) hr
  · show Q_addN2 Z o0 v0 l0 w0 kv kl kw q0 q1 q2 q3 vs ls vs1 ls1 i d0 dx dy h0 n0 _ T38.heap _
    rw [e38]
    exact ⟨rfl, N38, K38, f43, f39, f40, f41, f42, f47, f48, f45⟩
def Q_addL1 (Z : State) (o0 : Addr) (v0 : Addr) (l0 : Addr) (w0 : Addr) (kv : ClassId) (kl : ClassId) (kw : ClassId) (q0 : Int32) (q1 : Int32) (q2 : Int32) (q3 : Int32) (vs : List Value) (ls : List Value) (vs1 : List Value) (i : Int32) (d0 : UInt64) (dx : UInt64) (dy : UInt64) (h0 : Heap) (n0 : Nat) (v : Option Value) (h : Heap) (L : List Loc) : Prop := v = none ∧ Fr n0 L ∧ Keep h0 h [v0] ∧ Exa Z h o0 "com/example/leeway/leeway/lp/SparseColumn" ∧ Fld Z h o0 "com/example/leeway/leeway/lp/SparseColumn" "values" "[D" (.ref v0) ∧ Fld Z h o0 "com/example/leeway/leeway/lp/SparseColumn" "listed" "[Z" (.ref l0) ∧ Fld Z h o0 "com/example/leeway/leeway/lp/SparseColumn" "rows" "[I" (.ref w0) ∧ Fld Z h o0 "com/example/leeway/leeway/lp/SparseColumn" "count" "I" (.int (1 : Int32)) ∧ Arv Z h v0 kv .double (4 : Int32) vs1 (.double (0 : UInt64)) ∧ Arv Z h l0 kl .boolean (4 : Int32) ls (.int (0 : Int32)) ∧ Arv Z h w0 kw .int (4 : Int32) [(.int q0), (.int q1), (.int q2), (.int q3)] (.int (0 : Int32))
set_option maxRecDepth 65536 in
set_option maxHeartbeats 40000000 in
theorem addL1 (l : Launch) (Z : State) (a0 : Array Value) (hw : ∀ d ∈ tables_1, d.before a0 Z = true) (ws : List Jvm.Cond) (o0 : Addr) (v0 : Addr) (l0 : Addr) (w0 : Addr) (kv : ClassId) (kl : ClassId) (kw : ClassId) (q0 : Int32) (q1 : Int32) (q2 : Int32) (q3 : Int32) (vs : List Value) (ls : List Value) (vs1 : List Value) (i : Int32) (d0 : UInt64) (dx : UInt64) (dy : UInt64) (h0 : Heap) (n0 : Nat) (Z0 : n0 ≤ h0.size) (F_values_o0 : Fld Z h0 o0 "com/example/leeway/leeway/lp/SparseColumn" "values" "[D" (.ref v0)) (F_listed_o0 : Fld Z h0 o0 "com/example/leeway/leeway/lp/SparseColumn" "listed" "[Z" (.ref l0)) (F_rows_o0 : Fld Z h0 o0 "com/example/leeway/leeway/lp/SparseColumn" "rows" "[I" (.ref w0)) (F_count_o0 : Fld Z h0 o0 "com/example/leeway/leeway/lp/SparseColumn" "count" "I" (.int (1 : Int32))) (E_o0 : Exa Z h0 o0 "com/example/leeway/leeway/lp/SparseColumn") (V_v0 : Arv Z h0 v0 kv .double (4 : Int32) vs (.double (0 : UInt64))) (V_l0 : Arv Z h0 l0 kl .boolean (4 : Int32) ls (.int (0 : Int32))) (V_w0 : Arv Z h0 w0 kw .int (4 : Int32) [(.int q0), (.int q1), (.int q2), (.int q3)] (.int (0 : Int32))) (g_o0 : n0 ≤ o0) (g_v0 : n0 ≤ v0) (g_l0 : n0 ≤ l0) (g_w0 : n0 ≤ w0) (ne_o0_v0 : o0 ≠ v0) (ne_o0_l0 : o0 ≠ l0) (ne_o0_w0 : o0 ≠ w0) (ne_v0_l0 : v0 ≠ l0) (ne_v0_w0 : v0 ≠ w0) (ne_l0_w0 : l0 ≠ w0) (hix : ¬ i < 0 ∧ i < (4 : Int32)) (hrl : ls.getD i.toNatClampNeg (.int (0 : Int32)) = .int (1 : Int32)) (hrv : vs.getD i.toNatClampNeg (.double (0 : UInt64)) = .double dx) (hvl : i.toNatClampNeg < vs.length) (hvs : (vs.set i.toNatClampNeg (.double dy)) = vs1) (nn41 : Jvm.Free.Fl.NoNaN64 (FP.dadd dx d0)) (hq41 : (FP.dadd dx d0) = dy) :
    MetFree l (⟨"com/example/leeway/leeway/lp/SparseColumn", "add", "(ID)V"⟩ : MethodName) (head1 (Jvm.Cond.code (⟨"com/example/leeway/leeway/lp/SparseColumn", "add", "(ID)V"⟩ : MethodName) prog_87_method_6_code 4 none :: ws) ({ frames := 0, cells := 0, slots := 0, locals := 0 } : Room)) (fun a U => a = #[(.ref o0), (.int i), (.double d0)] ∧ Z.Warmed39 U.vm ∧ U.heap = h0) (fun _ _ _ _ _ => True) (fun _ U o U' => ∃ v L, o = .returned v ∧ Q_addL1 Z o0 v0 l0 w0 kv kl kw q0 q1 q2 q3 vs ls vs1 i d0 dx dy h0 n0 v U'.heap L ∧ FrameEnd U o U' L ({ frames := 0, cells := 0, slots := 0, locals := 0 } : Room).cells ({ frames := 0, cells := 0, slots := 0, locals := 0 } : Room).slots) := by
  refine MetFree.of_bodySF (plainFor_of_name pn_com_example_leeway_leeway_lp_SparseColumn) hisR ?_
  intro p e s m args below meth c s₁ Bd hml0 hP hK
  obtain ⟨rfl, hZ, hh⟩ := hP
  have hx := Bd.exec
  have hby := Bd.bytes
  have hml : c.maxLocals = 4 := hml0
  have hown : s.vm.findClass "com/example/leeway/leeway/lp/SparseColumn" = some m.cls := findClass_of_methodNamed Bd.named
  have hnm := (name_of_methodNamed Bd.named Bd.method).1
  have X0 : Stand p l e ({ frames := 0, cells := 0, slots := 0, locals := 0 } : Room) s m #[(.ref o0), (.int i), (.double d0)] below meth c s₁ [] 0 0 := Stand.of_body Bd
  have e0 : s₁.heap = h0 := by rw [← hh, Bd.state]; rfl
  have N0 := Fr.nil n0
  have pre0 : ∀ t, Steps p.tables e below (s₁.setTop (mkF m 0 #[.val (.ref o0), .val (.int i), .val (.double d0), .second] [])) t → Steps p.tables e below (s₁.setTop (entryFrame m #[(.ref o0), (.int i), (.double d0)] 4)) t := fun t k => castTop (ef_6_RID m o0 i d0) k
  obtain ⟨T1, X1, e1, st1⟩ := getF X0 hx hZ hown (host := "") (Or.inl (hw _ (List.mem_of_getElem? (i := 13) rfl))) Via.refl e0 F_listed_o0 (g := (mkF m 1 #[.val (.ref o0), .val (.int i), .val (.double d0), .second] [(.ref o0)])) rfl rfl (hb hby d6_1)
  obtain ⟨cq2, Arq2, -, Sq2, -, Hq2, -⟩ := id V_l0
  obtain ⟨T3, X3, e3, st3⟩ := getF X1 hx hZ hown (host := "") (Or.inl (hw _ (List.mem_of_getElem? (i := 10) rfl))) Via.refl e1 F_values_o0 (g := (mkF m 34 #[.val (.ref o0), .val (.int i), .val (.double d0), .second] [(.ref o0)])) rfl rfl (hb hby d6_34)
  obtain ⟨cq4, Arq4, -, Sq4, -, Hq4, -⟩ := id V_v0
  obtain ⟨cq5, Arq5, qq5, Sq5, Nq5, Hq5, Gq5⟩ := id V_v0
  obtain ⟨T6, h6, X6, e6, W6, st6⟩ := stD X3 hx hZ e3 Arq5 (j := i) (inb_of Sq5 hix) (g := (mkF m 42 #[.val (.ref o0), .val (.int i), .val (.double d0), .second] [(.double dy), (.int i), (.ref v0)])) rfl rfl (hb hby d6_42)
  have f7 := F_values_o0.other W6 (Or.inl ne_o0_v0)
  have f8 := F_listed_o0.other W6 (Or.inl ne_o0_v0)
  have f9 := F_rows_o0.other W6 (Or.inl ne_o0_v0)
  have f10 := F_count_o0.other W6 (Or.inl ne_o0_v0)
  have f11 := E_o0.wr W6
  have f12 := V_l0.other W6 (Ne.symm ne_v0_l0)
  have f13 := V_w0.other W6 (Ne.symm ne_v0_w0)
  have K6 : Keep h0 h6 [v0] := (Keep.refl h0 [v0]).wr W6 (Or.inl (List.mem_of_getElem? (i := 0) rfl))
  have Zs6 := Nat.le_trans Z0 (Keep.of_wr W6).1
  have N6 := Fr.snoc X6 N0 g_v0
  have f14 : Arv Z h6 v0 kv .double (4 : Int32) (vs.set i.toNatClampNeg (.double dy)) (.double (0 : UInt64)) := Arv.set Arq5 qq5 Sq5 Nq5 Hq5 Gq5 rfl W6 i.toNatClampNeg rfl hvl
  have f15 : Arv Z h6 v0 kv .double (4 : Int32) vs1 (.double (0 : UInt64)) := (hvs : (vs.set i.toNatClampNeg (.double dy)) = vs1) ▸ f14
  obtain ⟨fs, hr, hrun, hended, hW, hsame⟩ := X6.leave (v := none) (fun _ => rfl)
  refine ⟨_, _, pre0 _ ?_, hrun, hended, _, _, rfl, ?_, ⟨_, rfl⟩, hW, hsame.mono (by decide) (by decide)⟩
  · show Steps p.tables e below (s₁.setTop (mkF m 0 #[.val (.ref o0), .val (.int i), .val (.double d0), .second] [])) _
    refine XS.aloadN X0.here hx rfl (hb hby d6_0) rfl rfl ?_
    show Steps p.tables e below (s₁.setTop (mkF m 1 #[.val (.ref o0), .val (.int i), .val (.double d0), .second] [(.ref o0)])) _
    refine st1 _ ?_
    show Steps p.tables e below (T1.setTop (mkF m 4 #[.val (.ref o0), .val (.int i), .val (.double d0), .second] [(.ref l0)])) _
    refine XS.iloadN X1.here hx rfl (hb hby d6_4) rfl ?_
    show Steps p.tables e below (T1.setTop (mkF m 5 #[.val (.ref o0), .val (.int i), .val (.double d0), .second] [(.int i), (.ref l0)])) _
    refine X1.baloadBooleans hx (j := i) (v := (.int (1 : Int32))) (by rw [e1]; exact Arq2.1) (State.isArrayOf_alike hZ.alike Arq2.2.1) Arq2.2.2 (inb_of Sq2 hix) (Has.at Hq2 (inb_of Sq2 hix) hrl) (g := (mkF m 5 #[.val (.ref o0), .val (.int i), .val (.double d0), .second] [(.int i), (.ref l0)])) rfl rfl (hb hby d6_5) _ ?_
    show Steps p.tables e below (T1.setTop (mkF m 6 #[.val (.ref o0), .val (.int i), .val (.double d0), .second] [(.int (1 : Int32))])) _
    refine XS.ifYes X1.here hx rfl (pc0 := 6) (pc' := 33) rfl (hb hby d6_6) rfl ((if0 _ _).trans (feq (by decide : ¬ ((1 : Int32) = (0 : Int32)))).2) (by decide) (by decide) ?_
    show Steps p.tables e below (T1.setTop (mkF m 33 #[.val (.ref o0), .val (.int i), .val (.double d0), .second] [])) _
    refine XS.aloadN X1.here hx rfl (hb hby d6_33) rfl rfl ?_
    show Steps p.tables e below (T1.setTop (mkF m 34 #[.val (.ref o0), .val (.int i), .val (.double d0), .second] [(.ref o0)])) _
    refine st3 _ ?_
    show Steps p.tables e below (T3.setTop (mkF m 37 #[.val (.ref o0), .val (.int i), .val (.double d0), .second] [(.ref v0)])) _
    refine XS.iloadN X3.here hx rfl (hb hby d6_37) rfl ?_
    show Steps p.tables e below (T3.setTop (mkF m 38 #[.val (.ref o0), .val (.int i), .val (.double d0), .second] [(.int i), (.ref v0)])) _
    jvm_step X3.here [X3.here.top, hx, (hb hby d6_38), Value.category]
    show Steps p.tables e below (T3.setTop (mkF m 39 #[.val (.ref o0), .val (.int i), .val (.double d0), .second] [(.int i), (.ref v0), (.int i), (.ref v0)])) _
    refine X3.daload hx (j := i) (v := (.double dx)) (by rw [e3]; exact Arq4.1) (State.isArrayOf_alike hZ.alike Arq4.2.1) Arq4.2.2 (inb_of Sq4 hix) (Has.at Hq4 (inb_of Sq4 hix) hrv) (g := (mkF m 39 #[.val (.ref o0), .val (.int i), .val (.double d0), .second] [(.int i), (.ref v0), (.int i), (.ref v0)])) rfl rfl (hb hby d6_39) _ ?_
    show Steps p.tables e below (T3.setTop (mkF m 40 #[.val (.ref o0), .val (.int i), .val (.double d0), .second] [(.double dx), (.int i), (.ref v0)])) _
    refine XS.dloadN X3.here hx rfl (hb hby d6_40) rfl ?_
    show Steps p.tables e below (T3.setTop (mkF m 41 #[.val (.ref o0), .val (.int i), .val (.double d0), .second] [(.double d0), (.double dx), (.int i), (.ref v0)])) _
    refine XS.daddS X3.here hx rfl (hb hby d6_41) rfl nn41 (v := dy) hq41 ?_
    show Steps p.tables e below (T3.setTop (mkF m 42 #[.val (.ref o0), .val (.int i), .val (.double d0), .second] [(.double dy), (.int i), (.ref v0)])) _
    refine st6 _ ?_
    show Steps p.tables e below (T6.setTop (mkF m 43 #[.val (.ref o0), .val (.int i), .val (.double d0), .second] [])) _
    exact X6.returnOut hx Bd.returns (hb hby d6_43) hr
  · show Q_addL1 Z o0 v0 l0 w0 kv kl kw q0 q1 q2 q3 vs ls vs1 i d0 dx dy h0 n0 _ T6.heap _
    rw [e6]
    exact ⟨rfl, N6, K6, f11, f7, f8, f9, f10, f15, f12, f13⟩
def Q_addL2 (Z : State) (o0 : Addr) (v0 : Addr) (l0 : Addr) (w0 : Addr) (kv : ClassId) (kl : ClassId) (kw : ClassId) (q0 : Int32) (q1 : Int32) (q2 : Int32) (q3 : Int32) (vs : List Value) (ls : List Value) (vs1 : List Value) (i : Int32) (d0 : UInt64) (dx : UInt64) (dy : UInt64) (h0 : Heap) (n0 : Nat) (v : Option Value) (h : Heap) (L : List Loc) : Prop := v = none ∧ Fr n0 L ∧ Keep h0 h [v0] ∧ Exa Z h o0 "com/example/leeway/leeway/lp/SparseColumn" ∧ Fld Z h o0 "com/example/leeway/leeway/lp/SparseColumn" "values" "[D" (.ref v0) ∧ Fld Z h o0 "com/example/leeway/leeway/lp/SparseColumn" "listed" "[Z" (.ref l0) ∧ Fld Z h o0 "com/example/leeway/leeway/lp/SparseColumn" "rows" "[I" (.ref w0) ∧ Fld Z h o0 "com/example/leeway/leeway/lp/SparseColumn" "count" "I" (.int (2 : Int32)) ∧ Arv Z h v0 kv .double (4 : Int32) vs1 (.double (0 : UInt64)) ∧ Arv Z h l0 kl .boolean (4 : Int32) ls (.int (0 : Int32)) ∧ Arv Z h w0 kw .int (4 : Int32) [(.int q0), (.int q1), (.int q2), (.int q3)] (.int (0 : Int32))
set_option maxRecDepth 65536 in
set_option maxHeartbeats 40000000 in
theorem addL2 (l : Launch) (Z : State) (a0 : Array Value) (hw : ∀ d ∈ tables_1, d.before a0 Z = true) (ws : List Jvm.Cond) (o0 : Addr) (v0 : Addr) (l0 : Addr) (w0 : Addr) (kv : ClassId) (kl : ClassId) (kw : ClassId) (q0 : Int32) (q1 : Int32) (q2 : Int32) (q3 : Int32) (vs : List Value) (ls : List Value) (vs1 : List Value) (i : Int32) (d0 : UInt64) (dx : UInt64) (dy : UInt64) (h0 : Heap) (n0 : Nat) (Z0 : n0 ≤ h0.size) (F_values_o0 : Fld Z h0 o0 "com/example/leeway/leeway/lp/SparseColumn" "values" "[D" (.ref v0)) (F_listed_o0 : Fld Z h0 o0 "com/example/leeway/leeway/lp/SparseColumn" "listed" "[Z" (.ref l0)) (F_rows_o0 : Fld Z h0 o0 "com/example/leeway/leeway/lp/SparseColumn" "rows" "[I" (.ref w0)) (F_count_o0 : Fld Z h0 o0 "com/example/leeway/leeway/lp/SparseColumn" "count" "I" (.int (2 : Int32))) (E_o0 : Exa Z h0 o0 "com/example/leeway/leeway/lp/SparseColumn") (V_v0 : Arv Z h0 v0 kv .double (4 : Int32) vs (.double (0 : UInt64))) (V_l0 : Arv Z h0 l0 kl .boolean (4 : Int32) ls (.int (0 : Int32))) (V_w0 : Arv Z h0 w0 kw .int (4 : Int32) [(.int q0), (.int q1), (.int q2), (.int q3)] (.int (0 : Int32))) (g_o0 : n0 ≤ o0) (g_v0 : n0 ≤ v0) (g_l0 : n0 ≤ l0) (g_w0 : n0 ≤ w0) (ne_o0_v0 : o0 ≠ v0) (ne_o0_l0 : o0 ≠ l0) (ne_o0_w0 : o0 ≠ w0) (ne_v0_l0 : v0 ≠ l0) (ne_v0_w0 : v0 ≠ w0) (ne_l0_w0 : l0 ≠ w0) (hix : ¬ i < 0 ∧ i < (4 : Int32)) (hrl : ls.getD i.toNatClampNeg (.int (0 : Int32)) = .int (1 : Int32)) (hrv : vs.getD i.toNatClampNeg (.double (0 : UInt64)) = .double dx) (hvl : i.toNatClampNeg < vs.length) (hvs : (vs.set i.toNatClampNeg (.double dy)) = vs1) (nn41 : Jvm.Free.Fl.NoNaN64 (FP.dadd dx d0)) (hq41 : (FP.dadd dx d0) = dy) :
    MetFree l (⟨"com/example/leeway/leeway/lp/SparseColumn", "add", "(ID)V"⟩ : MethodName) (head1 (Jvm.Cond.code (⟨"com/example/leeway/leeway/lp/SparseColumn", "add", "(ID)V"⟩ : MethodName) prog_87_method_6_code 4 none :: ws) ({ frames := 0, cells := 0, slots := 0, locals := 0 } : Room)) (fun a U => a = #[(.ref o0), (.int i), (.double d0)] ∧ Z.Warmed39 U.vm ∧ U.heap = h0) (fun _ _ _ _ _ => True) (fun _ U o U' => ∃ v L, o = .returned v ∧ Q_addL2 Z o0 v0 l0 w0 kv kl kw q0 q1 q2 q3 vs ls vs1 i d0 dx dy h0 n0 v U'.heap L ∧ FrameEnd U o U' L ({ frames := 0, cells := 0, slots := 0, locals := 0 } : Room).cells ({ frames := 0, cells := 0, slots := 0, locals := 0 } : Room).slots) := by
  refine MetFree.of_bodySF (plainFor_of_name pn_com_example_leeway_leeway_lp_SparseColumn) hisR ?_
  intro p e s m args below meth c s₁ Bd hml0 hP hK
  obtain ⟨rfl, hZ, hh⟩ := hP
  have hx := Bd.exec
  have hby := Bd.bytes
  have hml : c.maxLocals = 4 := hml0
  have hown : s.vm.findClass "com/example/leeway/leeway/lp/SparseColumn" = some m.cls := findClass_of_methodNamed Bd.named
  have hnm := (name_of_methodNamed Bd.named Bd.method).1
  have X0 : Stand p l e ({ frames := 0, cells := 0, slots := 0, locals := 0 } : Room) s m #[(.ref o0), (.int i), (.double d0)] below meth c s₁ [] 0 0 := Stand.of_body Bd
  have e0 : s₁.heap = h0 := by rw [← hh, Bd.state]; rfl
  have N0 := Fr.nil n0
  have pre0 : ∀ t, Steps p.tables e below (s₁.setTop (mkF m 0 #[.val (.ref o0), .val (.int i), .val (.double d0), .second] [])) t → Steps p.tables e below (s₁.setTop (entryFrame m #[(.ref o0), (.int i), (.double d0)] 4)) t := fun t k => castTop (ef_6_RID m o0 i d0) k
  obtain ⟨T1, X1, e1, st1⟩ := getF X0 hx hZ hown (host := "") (Or.inl (hw _ (List.mem_of_getElem? (i := 13) rfl))) Via.refl e0 F_listed_o0 (g := (mkF m 1 #[.val (.ref o0), .val (.int i), .val (.double d0), .second] [(.ref o0)])) rfl rfl (hb hby d6_1)
  obtain ⟨cq2, Arq2, -, Sq2, -, Hq2, -⟩ := id V_l0
  obtain ⟨T3, X3, e3, st3⟩ := getF X1 hx hZ hown (host := "") (Or.inl (hw _ (List.mem_of_getElem? (i := 10) rfl))) Via.refl e1 F_values_o0 (g := (mkF m 34 #[.val (.ref o0), .val (.int i), .val (.double d0), .second] [(.ref o0)])) rfl rfl (hb hby d6_34)
  obtain ⟨cq4, Arq4, -, Sq4, -, Hq4, -⟩ := id V_v0
  obtain ⟨cq5, Arq5, qq5, Sq5, Nq5, Hq5, Gq5⟩ := id V_v0
  obtain ⟨T6, h6, X6, e6, W6, st6⟩ := stD X3 hx hZ e3 Arq5 (j := i) (inb_of Sq5 hix) (g := (mkF m 42 #[.val (.ref o0), .val (.int i), .val (.double d0), .second] [(.double dy), (.int i), (.ref v0)])) rfl rfl (hb hby d6_42)
  have f7 := F_values_o0.other W6 (Or.inl ne_o0_v0)
  have f8 := F_listed_o0.other W6 (Or.inl ne_o0_v0)
  have f9 := F_rows_o0.other W6 (Or.inl ne_o0_v0)
  have f10 := F_count_o0.other W6 (Or.inl ne_o0_v0)
  have f11 := E_o0.wr W6
  have f12 := V_l0.other W6 (Ne.symm ne_v0_l0)
  have f13 := V_w0.other W6 (Ne.symm ne_v0_w0)
  have K6 : Keep h0 h6 [v0] := (Keep.refl h0 [v0]).wr W6 (Or.inl (List.mem_of_getElem? (i := 0) rfl))
  have Zs6 := Nat.le_trans Z0 (Keep.of_wr W6).1
  have N6 := Fr.snoc X6 N0 g_v0
  have f14 : Arv Z h6 v0 kv .double (4 : Int32) (vs.set i.toNatClampNeg (.double dy)) (.double (0 : UInt64)) := Arv.set Arq5 qq5 Sq5 Nq5 Hq5 Gq5 rfl W6 i.toNatClampNeg rfl hvl
  have f15 : Arv Z h6 v0 kv .double (4 : Int32) vs1 (.double (0 : UInt64)) := (hvs : (vs.set i.toNatClampNeg (.double dy)) = vs1) ▸ f14
  obtain ⟨fs, hr, hrun, hended, hW, hsame⟩ := X6.leave (v := none) (fun _ => rfl)
  refine ⟨_, _, pre0 _ ?_, hrun, hended, _, _, rfl, ?_, ⟨_, rfl⟩, hW, hsame.mono (by decide) (by decide)⟩
  · show Steps p.tables e below (s₁.setTop (mkF m 0 #[.val (.ref o0), .val (.int i), .val (.double d0), .second] [])) _
    refine XS.aloadN X0.here hx rfl (hb hby d6_0) rfl rfl ?_
    show Steps p.tables e below (s₁.setTop (mkF m 1 #[.val (.ref o0), .val (.int i), .val (.double d0), .second] [(.ref o0)])) _
    refine st1 _ ?_
    show Steps p.tables e below (T1.setTop (mkF m 4 #[.val (.ref o0), .val (.int i), .val (.double d0), .second] [(.ref l0)])) _
    refine XS.iloadN X1.here hx rfl (hb hby d6_4) rfl ?_
    show Steps p.tables e below (T1.setTop (mkF m 5 #[.val (.ref o0), .val (.int i), .val (.double d0), .second] [(.int i), (.ref l0)])) _
    refine X1.baloadBooleans hx (j := i) (v := (.int (1 : Int32))) (by rw [e1]; exact Arq2.1) (State.isArrayOf_alike hZ.alike Arq2.2.1) Arq2.2.2 (inb_of Sq2 hix) (Has.at Hq2 (inb_of Sq2 hix) hrl) (g := (mkF m 5 #[.val (.ref o0), .val (.int i), .val (.double d0), .second] [(.int i), (.ref l0)])) rfl rfl (hb hby d6_5) _ ?_
    show Steps p.tables e below (T1.setTop (mkF m 6 #[.val (.ref o0), .val (.int i), .val (.double d0), .second] [(.int (1 : Int32))])) _
    refine XS.ifYes X1.here hx rfl (pc0 := 6) (pc' := 33) rfl (hb hby d6_6) rfl ((if0 _ _).trans (feq (by decide : ¬ ((1 : Int32) = (0 : Int32)))).2) (by decide) (by decide) ?_
    show Steps p.tables e below (T1.setTop (mkF m 33 #[.val (.ref o0), .val (.int i), .val (.double d0), .second] [])) _
    refine XS.aloadN X1.here hx rfl (hb hby d6_33) rfl rfl ?_
    show Steps p.tables e below (T1.setTop (mkF m 34 #[.val (.ref o0), .val (.int i), .val (.double d0), .second] [(.ref o0)])) _
    refine st3 _ ?_
    show Steps p.tables e below (T3.setTop (mkF m 37 #[.val (.ref o0), .val (.int i), .val (.double d0), .second] [(.ref v0)])) _
    refine XS.iloadN X3.here hx rfl (hb hby d6_37) rfl ?_
    show Steps p.tables e below (T3.setTop (mkF m 38 #[.val (.ref o0), .val (.int i), .val (.double d0), .second] [(.int i), (.ref v0)])) _
    jvm_step X3.here [X3.here.top, hx, (hb hby d6_38), Value.category]
    show Steps p.tables e below (T3.setTop (mkF m 39 #[.val (.ref o0), .val (.int i), .val (.double d0), .second] [(.int i), (.ref v0), (.int i), (.ref v0)])) _
    refine X3.daload hx (j := i) (v := (.double dx)) (by rw [e3]; exact Arq4.1) (State.isArrayOf_alike hZ.alike Arq4.2.1) Arq4.2.2 (inb_of Sq4 hix) (Has.at Hq4 (inb_of Sq4 hix) hrv) (g := (mkF m 39 #[.val (.ref o0), .val (.int i), .val (.double d0), .second] [(.int i), (.ref v0), (.int i), (.ref v0)])) rfl rfl (hb hby d6_39) _ ?_
    show Steps p.tables e below (T3.setTop (mkF m 40 #[.val (.ref o0), .val (.int i), .val (.double d0), .second] [(.double dx), (.int i), (.ref v0)])) _
    refine XS.dloadN X3.here hx rfl (hb hby d6_40) rfl ?_
    show Steps p.tables e below (T3.setTop (mkF m 41 #[.val (.ref o0), .val (.int i), .val (.double d0), .second] [(.double d0), (.double dx), (.int i), (.ref v0)])) _
    refine XS.daddS X3.here hx rfl (hb hby d6_41) rfl nn41 (v := dy) hq41 ?_
    show Steps p.tables e below (T3.setTop (mkF m 42 #[.val (.ref o0), .val (.int i), .val (.double d0), .second] [(.double dy), (.int i), (.ref v0)])) _
    refine st6 _ ?_
    show Steps p.tables e below (T6.setTop (mkF m 43 #[.val (.ref o0), .val (.int i), .val (.double d0), .second] [])) _
    exact X6.returnOut hx Bd.returns (hb hby d6_43) hr
  · show Q_addL2 Z o0 v0 l0 w0 kv kl kw q0 q1 q2 q3 vs ls vs1 i d0 dx dy h0 n0 _ T6.heap _
    rw [e6]
    exact ⟨rfl, N6, K6, f11, f7, f8, f9, f10, f15, f12, f13⟩
theorem d3_0 : decode prog_87_method_5_code 0 = .ok (.iconst 0, 1) := by decide +kernel
theorem d3_1 : decode prog_87_method_5_code 1 = .ok (.istore_n 1, 1) := by decide +kernel
theorem d3_2 : decode prog_87_method_5_code 2 = .ok (.iload_n 1, 1) := by decide +kernel
theorem d3_3 : decode prog_87_method_5_code 3 = .ok (.aload_n 0, 1) := by decide +kernel
theorem d3_4 : decode prog_87_method_5_code 4 = .ok (.getfield 21, 3) := by decide +kernel
theorem d3_7 : decode prog_87_method_5_code 7 = .ok (.if_icmp .ge 33, 3) := by decide +kernel
theorem d3_40 : decode prog_87_method_5_code 40 = .ok (.aload_n 0, 1) := by decide +kernel
theorem d3_41 : decode prog_87_method_5_code 41 = .ok (.iconst 0, 1) := by decide +kernel
theorem d3_42 : decode prog_87_method_5_code 42 = .ok (.putfield 21, 3) := by decide +kernel
theorem d3_45 : decode prog_87_method_5_code 45 = .ok (.return_, 1) := by decide +kernel
theorem ef_3_R (m : MethodId) (x0 : Addr) : entryFrame m #[(.ref x0)] 2 = mkF m 0 #[.val (.ref x0), .unset] [] := by first | (simp [entryFrame, mkF, argsToLocals, Value.category]; done) | rfl
def Q_clr0 (Z : State) (o0 : Addr) (v0 : Addr) (l0 : Addr) (w0 : Addr) (kv : ClassId) (kl : ClassId) (kw : ClassId) (q0 : Int32) (q1 : Int32) (q2 : Int32) (q3 : Int32) (vs : List Value) (ls : List Value) (h0 : Heap) (n0 : Nat) (v : Option Value) (h : Heap) (L : List Loc) : Prop := v = none ∧ Fr n0 L ∧ Keep h0 h [o0] ∧ Exa Z h o0 "com/example/leeway/leeway/lp/SparseColumn" ∧ Fld Z h o0 "com/example/leeway/leeway/lp/SparseColumn" "values" "[D" (.ref v0) ∧ Fld Z h o0 "com/example/leeway/leeway/lp/SparseColumn" "listed" "[Z" (.ref l0) ∧ Fld Z h o0 "com/example/leeway/leeway/lp/SparseColumn" "rows" "[I" (.ref w0) ∧ Fld Z h o0 "com/example/leeway/leeway/lp/SparseColumn" "count" "I" (.int (0 : Int32)) ∧ Arv Z h v0 kv .double (4 : Int32) vs (.double (0 : UInt64)) ∧ Arv Z h l0 kl .boolean (4 : Int32) ls (.int (0 : Int32)) ∧ Arv Z h w0 kw .int (4 : Int32) [(.int q0), (.int q1), (.int q2), (.int q3)] (.int (0 : Int32))
set_option maxRecDepth 65536 in
set_option maxHeartbeats 40000000 in
theorem clr0 (l : Launch) (Z : State) (a0 : Array Value) (hw : ∀ d ∈ tables_1, d.before a0 Z = true) (ws : List Jvm.Cond) (o0 : Addr) (v0 : Addr) (l0 : Addr) (w0 : Addr) (kv : ClassId) (kl : ClassId) (kw : ClassId) (q0 : Int32) (q1 : Int32) (q2 : Int32) (q3 : Int32) (vs : List Value) (ls : List Value) (h0 : Heap) (n0 : Nat) (Z0 : n0 ≤ h0.size) (F_values_o0 : Fld Z h0 o0 "com/example/leeway/leeway/lp/SparseColumn" "values" "[D" (.ref v0)) (F_listed_o0 : Fld Z h0 o0 "com/example/leeway/leeway/lp/SparseColumn" "listed" "[Z" (.ref l0)) (F_rows_o0 : Fld Z h0 o0 "com/example/leeway/leeway/lp/SparseColumn" "rows" "[I" (.ref w0)) (F_count_o0 : Fld Z h0 o0 "com/example/leeway/leeway/lp/SparseColumn" "count" "I" (.int (0 : Int32))) (E_o0 : Exa Z h0 o0 "com/example/leeway/leeway/lp/SparseColumn") (V_v0 : Arv Z h0 v0 kv .double (4 : Int32) vs (.double (0 : UInt64))) (V_l0 : Arv Z h0 l0 kl .boolean (4 : Int32) ls (.int (0 : Int32))) (V_w0 : Arv Z h0 w0 kw .int (4 : Int32) [(.int q0), (.int q1), (.int q2), (.int q3)] (.int (0 : Int32))) (g_o0 : n0 ≤ o0) (g_v0 : n0 ≤ v0) (g_l0 : n0 ≤ l0) (g_w0 : n0 ≤ w0) (ne_o0_v0 : o0 ≠ v0) (ne_o0_l0 : o0 ≠ l0) (ne_o0_w0 : o0 ≠ w0) (ne_v0_l0 : v0 ≠ l0) (ne_v0_w0 : v0 ≠ w0) (ne_l0_w0 : l0 ≠ w0) :
    MetFree l (⟨"com/example/leeway/leeway/lp/SparseColumn", "clear", "()V"⟩ : MethodName) (head1 (Jvm.Cond.code (⟨"com/example/leeway/leeway/lp/SparseColumn", "clear", "()V"⟩ : MethodName) prog_87_method_5_code 2 none :: ws) ({ frames := 0, cells := 0, slots := 0, locals := 0 } : Room)) (fun a U => a = #[(.ref o0)] ∧ Z.Warmed39 U.vm ∧ U.heap = h0) (fun _ _ _ _ _ => True) (fun _ U o U' => ∃ v L, o = .returned v ∧ Q_clr0 Z o0 v0 l0 w0 kv kl kw q0 q1 q2 q3 vs ls h0 n0 v U'.heap L ∧ FrameEnd U o U' L ({ frames := 0, cells := 0, slots := 0, locals := 0 } : Room).cells ({ frames := 0, cells := 0, slots := 0, locals := 0 } : Room).slots) := by
  refine MetFree.of_bodySF (plainFor_of_name pn_com_example_leeway_leeway_lp_SparseColumn) hisR ?_
  intro p e s m args below meth c s₁ Bd hml0 hP hK
  obtain ⟨rfl, hZ, hh⟩ := hP
  have hx := Bd.exec
  have hby := Bd.bytes
  have hml : c.maxLocals = 2 := hml0
  have hown : s.vm.findClass "com/example/leeway/leeway/lp/SparseColumn" = some m.cls := findClass_of_methodNamed Bd.named
  have hnm := (name_of_methodNamed Bd.named Bd.method).1
  have X0 : Stand p l e ({ frames := 0, cells := 0, slots := 0, locals := 0 } : Room) s m #[(.ref o0)] below meth c s₁ [] 0 0 := Stand.of_body Bd
  have e0 : s₁.heap = h0 := by rw [← hh, Bd.state]; rfl
  have N0 := Fr.nil n0
  have pre0 : ∀ t, Steps p.tables e below (s₁.setTop (mkF m 0 #[.val (.ref o0), .unset] [])) t → Steps p.tables e below (s₁.setTop (entryFrame m #[(.ref o0)] 2)) t := fun t k => castTop (ef_3_R m o0) k
  obtain ⟨T1, X1, e1, st1⟩ := getF X0 hx hZ hown (host := "") (Or.inl (hw _ (List.mem_of_getElem? (i := 23) rfl))) Via.refl e0 F_count_o0 (g := (mkF m 4 #[.val (.ref o0), .val (.int (0 : Int32))] [(.ref o0), (.int (0 : Int32))])) rfl rfl (hb hby d3_4)
  obtain ⟨T2, h2, X2, e2, W2, st2⟩ := putF X1 hx hZ hown (host := "") (Or.inl (hw _ (List.mem_of_getElem? (i := 23) rfl))) Via.refl e1 F_count_o0 E_o0 (Or.inl (hw _ (List.mem_of_getElem? (i := 24) rfl))) (hw _ (List.mem_of_getElem? (i := 1) rfl)) (ty := .int) (by decide) rfl rfl (g := (mkF m 42 #[.val (.ref o0), .val (.int (0 : Int32))] [(.int (0 : Int32)), (.ref o0)])) rfl rfl (hb hby d3_42)
  have f3 := F_values_o0.other W2 (Or.inr (so_SparseColumn_values_count hw))
  have f4 := F_listed_o0.other W2 (Or.inr (so_SparseColumn_listed_count hw))
  have f5 := F_rows_o0.other W2 (Or.inr (so_SparseColumn_rows_count hw))
  have f6 := E_o0.wr W2
  have f7 := V_v0.other W2 (Ne.symm ne_o0_v0)
  have f8 := V_l0.other W2 (Ne.symm ne_o0_l0)
  have f9 := V_w0.other W2 (Ne.symm ne_o0_w0)
  have K2 : Keep h0 h2 [o0] := (Keep.refl h0 [o0]).wr W2 (Or.inl (List.mem_of_getElem? (i := 0) rfl))
  have Zs2 := Nat.le_trans Z0 (Keep.of_wr W2).1
  have N2 := Fr.snoc X2 N0 g_o0
  have f10 : Fld Z h2 o0 "com/example/leeway/leeway/lp/SparseColumn" "count" "I" (.int (0 : Int32)) := F_count_o0.same W2
  obtain ⟨fs, hr, hrun, hended, hW, hsame⟩ := X2.leave (v := none) (fun _ => rfl)
  refine ⟨_, _, pre0 _ ?_, hrun, hended, _, _, rfl, ?_, ⟨_, rfl⟩, hW, hsame.mono (by decide) (by decide)⟩
  · show Steps p.tables e below (s₁.setTop (mkF m 0 #[.val (.ref o0), .unset] [])) _
    refine XS.iconst X0.here hx rfl (hb hby d3_0) ?_
    show Steps p.tables e below (s₁.setTop (mkF m 1 #[.val (.ref o0), .unset] [(.int (0 : Int32))])) _
    refine XS.istoreN X0.here hx rfl (hb hby d3_1) rfl (l' := #[.val (.ref o0), .val (.int (0 : Int32))]) rfl ?_
    show Steps p.tables e below (s₁.setTop (mkF m 2 #[.val (.ref o0), .val (.int (0 : Int32))] [])) _
    refine XS.iloadN X0.here hx rfl (hb hby d3_2) rfl ?_
    show Steps p.tables e below (s₁.setTop (mkF m 3 #[.val (.ref o0), .val (.int (0 : Int32))] [(.int (0 : Int32))])) _
    refine XS.aloadN X0.here hx rfl (hb hby d3_3) rfl rfl ?_
    show Steps p.tables e below (s₁.setTop (mkF m 4 #[.val (.ref o0), .val (.int (0 : Int32))] [(.ref o0), (.int (0 : Int32))])) _
    refine st1 _ ?_
    show Steps p.tables e below (T1.setTop (mkF m 7 #[.val (.ref o0), .val (.int (0 : Int32))] [(.int (0 : Int32)), (.int (0 : Int32))])) _
    refine XS.icmpYes X1.here hx rfl (pc0 := 7) (pc' := 40) rfl (hb hby d3_7) rfl (flt (by decide : ¬ ((0 : Int32) < (0 : Int32)))).2.1 (by decide) (by decide) ?_
    show Steps p.tables e below (T1.setTop (mkF m 40 #[.val (.ref o0), .val (.int (0 : Int32))] [])) _
    refine XS.aloadN X1.here hx rfl (hb hby d3_40) rfl rfl ?_
    show Steps p.tables e below (T1.setTop (mkF m 41 #[.val (.ref o0), .val (.int (0 : Int32))] [(.ref o0)])) _
    refine XS.iconst X1.here hx rfl (hb hby d3_41) ?_
    show Steps p.tables e below (T1.setTop (mkF m 42 #[.val (.ref o0), .val (.int (0 : Int32))] [(.int (0 : Int32)), (.ref o0)])) _
    refine st2 _ ?_
    show Steps p.tables e below (T2.setTop (mkF m 45 #[.val (.ref o0), .val (.int (0 : Int32))] [])) _
    exact X2.returnOut hx Bd.returns (hb hby d3_45) hr
  · show Q_clr0 Z o0 v0 l0 w0 kv kl kw q0 q1 q2 q3 vs ls h0 n0 _ T2.heap _
    rw [e2]
    exact ⟨rfl, N2, K2, f6, f3, f4, f5, f10, f7, f8, f9⟩
theorem d3_10 : decode prog_87_method_5_code 10 = .ok (.aload_n 0, 1) := by decide +kernel
theorem d3_11 : decode prog_87_method_5_code 11 = .ok (.getfield 7, 3) := by decide +kernel
theorem d3_14 : decode prog_87_method_5_code 14 = .ok (.aload_n 0, 1) := by decide +kernel
theorem d3_15 : decode prog_87_method_5_code 15 = .ok (.getfield 17, 3) := by decide +kernel
theorem d3_18 : decode prog_87_method_5_code 18 = .ok (.iload_n 1, 1) := by decide +kernel
theorem d3_19 : decode prog_87_method_5_code 19 = .ok (.iaload, 1) := by decide +kernel
theorem d3_20 : decode prog_87_method_5_code 20 = .ok (.dconst 0, 1) := by decide +kernel
theorem d3_21 : decode prog_87_method_5_code 21 = .ok (.dastore, 1) := by decide +kernel
theorem d3_22 : decode prog_87_method_5_code 22 = .ok (.aload_n 0, 1) := by decide +kernel
theorem d3_23 : decode prog_87_method_5_code 23 = .ok (.getfield 13, 3) := by decide +kernel
theorem d3_26 : decode prog_87_method_5_code 26 = .ok (.aload_n 0, 1) := by decide +kernel
theorem d3_27 : decode prog_87_method_5_code 27 = .ok (.getfield 17, 3) := by decide +kernel
theorem d3_30 : decode prog_87_method_5_code 30 = .ok (.iload_n 1, 1) := by decide +kernel
theorem d3_31 : decode prog_87_method_5_code 31 = .ok (.iaload, 1) := by decide +kernel
theorem d3_32 : decode prog_87_method_5_code 32 = .ok (.iconst 0, 1) := by decide +kernel
theorem d3_33 : decode prog_87_method_5_code 33 = .ok (.bastore, 1) := by decide +kernel
theorem d3_34 : decode prog_87_method_5_code 34 = .ok (.iinc 1 1, 3) := by decide +kernel
theorem d3_37 : decode prog_87_method_5_code 37 = .ok (.goto (-35), 3) := by decide +kernel
def Q_clr1 (Z : State) (o0 : Addr) (v0 : Addr) (l0 : Addr) (w0 : Addr) (kv : ClassId) (kl : ClassId) (kw : ClassId) (q0 : Int32) (q1 : Int32) (q2 : Int32) (q3 : Int32) (vs : List Value) (ls : List Value) (vs1 : List Value) (ls1 : List Value) (h0 : Heap) (n0 : Nat) (v : Option Value) (h : Heap) (L : List Loc) : Prop := v = none ∧ Fr n0 L ∧ Keep h0 h [v0, l0, o0] ∧ Exa Z h o0 "com/example/leeway/leeway/lp/SparseColumn" ∧ Fld Z h o0 "com/example/leeway/leeway/lp/SparseColumn" "values" "[D" (.ref v0) ∧ Fld Z h o0 "com/example/leeway/leeway/lp/SparseColumn" "listed" "[Z" (.ref l0) ∧ Fld Z h o0 "com/example/leeway/leeway/lp/SparseColumn" "rows" "[I" (.ref w0) ∧ Fld Z h o0 "com/example/leeway/leeway/lp/SparseColumn" "count" "I" (.int (0 : Int32)) ∧ Arv Z h v0 kv .double (4 : Int32) vs1 (.double (0 : UInt64)) ∧ Arv Z h l0 kl .boolean (4 : Int32) ls1 (.int (0 : Int32)) ∧ Arv Z h w0 kw .int (4 : Int32) [(.int q0), (.int q1), (.int q2), (.int q3)] (.int (0 : Int32))
set_option maxRecDepth 65536 in
set_option maxHeartbeats 40000000 in
theorem clr1 (l : Launch) (Z : State) (a0 : Array Value) (hw : ∀ d ∈ tables_1, d.before a0 Z = true) (ws : List Jvm.Cond) (o0 : Addr) (v0 : Addr) (l0 : Addr) (w0 : Addr) (kv : ClassId) (kl : ClassId) (kw : ClassId) (q0 : Int32) (q1 : Int32) (q2 : Int32) (q3 : Int32) (vs : List Value) (ls : List Value) (vs1 : List Value) (ls1 : List Value) (h0 : Heap) (n0 : Nat) (Z0 : n0 ≤ h0.size) (F_values_o0 : Fld Z h0 o0 "com/example/leeway/leeway/lp/SparseColumn" "values" "[D" (.ref v0)) (F_listed_o0 : Fld Z h0 o0 "com/example/leeway/leeway/lp/SparseColumn" "listed" "[Z" (.ref l0)) (F_rows_o0 : Fld Z h0 o0 "com/example/leeway/leeway/lp/SparseColumn" "rows" "[I" (.ref w0)) (F_count_o0 : Fld Z h0 o0 "com/example/leeway/leeway/lp/SparseColumn" "count" "I" (.int (1 : Int32))) (E_o0 : Exa Z h0 o0 "com/example/leeway/leeway/lp/SparseColumn") (V_v0 : Arv Z h0 v0 kv .double (4 : Int32) vs (.double (0 : UInt64))) (V_l0 : Arv Z h0 l0 kl .boolean (4 : Int32) ls (.int (0 : Int32))) (V_w0 : Arv Z h0 w0 kw .int (4 : Int32) [(.int q0), (.int q1), (.int q2), (.int q3)] (.int (0 : Int32))) (g_o0 : n0 ≤ o0) (g_v0 : n0 ≤ v0) (g_l0 : n0 ≤ l0) (g_w0 : n0 ≤ w0) (ne_o0_v0 : o0 ≠ v0) (ne_o0_l0 : o0 ≠ l0) (ne_o0_w0 : o0 ≠ w0) (ne_v0_l0 : v0 ≠ l0) (ne_v0_w0 : v0 ≠ w0) (ne_l0_w0 : l0 ≠ w0) (hx0 : ¬ q0 < 0 ∧ q0 < (4 : Int32)) (hv0 : q0.toNatClampNeg < vs.length) (hl0 : q0.toNatClampNeg < ls.length) (hvs : (vs.set q0.toNatClampNeg (.double (0 : UInt64))) = vs1) (hls : (ls.set q0.toNatClampNeg (.int (0 : Int32))) = ls1) :
    MetFree l (⟨"com/example/leeway/leeway/lp/SparseColumn", "clear", "()V"⟩ : MethodName) (head1 (Jvm.Cond.code (⟨"com/example/leeway/leeway/lp/SparseColumn", "clear", "()V"⟩ : MethodName) prog_87_method_5_code 2 none :: ws) ({ frames := 0, cells := 0, slots := 0, locals := 0 } : Room)) (fun a U => a = #[(.ref o0)] ∧ Z.Warmed39 U.vm ∧ U.heap = h0) (fun _ _ _ _ _ => True) (fun _ U o U' => ∃ v L, o = .returned v ∧ Q_clr1 Z o0 v0 l0 w0 kv kl kw q0 q1 q2 q3 vs ls vs1 ls1 h0 n0 v U'.heap L ∧ FrameEnd U o U' L ({ frames := 0, cells := 0, slots := 0, locals := 0 } : Room).cells ({ frames := 0, cells := 0, slots := 0, locals := 0 } : Room).slots) := by
  refine MetFree.of_bodySF (plainFor_of_name pn_com_example_leeway_leeway_lp_SparseColumn) hisR ?_
  intro p e s m args below meth c s₁ Bd hml0 hP hK
  obtain ⟨rfl, hZ, hh⟩ := hP
  have hx := Bd.exec
  have hby := Bd.bytes
  have hml : c.maxLocals = 2 := hml0
  have hown : s.vm.findClass "com/example/leeway/leeway/lp/SparseColumn" = some m.cls := findClass_of_methodNamed Bd.named
  have hnm := (name_of_methodNamed Bd.named Bd.method).1
  have X0 : Stand p l e ({ frames := 0, cells := 0, slots := 0, locals := 0 } : Room) s m #[(.ref o0)] below meth c s₁ [] 0 0 := Stand.of_body Bd
  have e0 : s₁.heap = h0 := by rw [← hh, Bd.state]; rfl
  have N0 := Fr.nil n0
  have pre0 : ∀ t, Steps p.tables e below (s₁.setTop (mkF m 0 #[.val (.ref o0), .unset] [])) t → Steps p.tables e below (s₁.setTop (entryFrame m #[(.ref o0)] 2)) t := fun t k => castTop (ef_3_R m o0) k
  obtain ⟨T1, X1, e1, st1⟩ := getF X0 hx hZ hown (host := "") (Or.inl (hw _ (List.mem_of_getElem? (i := 23) rfl))) Via.refl e0 F_count_o0 (g := (mkF m 4 #[.val (.ref o0), .val (.int (0 : Int32))] [(.ref o0), (.int (0 : Int32))])) rfl rfl (hb hby d3_4)
  obtain ⟨T2, X2, e2, st2⟩ := getF X1 hx hZ hown (host := "") (Or.inl (hw _ (List.mem_of_getElem? (i := 10) rfl))) Via.refl e1 F_values_o0 (g := (mkF m 11 #[.val (.ref o0), .val (.int (0 : Int32))] [(.ref o0)])) rfl rfl (hb hby d3_11)
  obtain ⟨T3, X3, e3, st3⟩ := getF X2 hx hZ hown (host := "") (Or.inl (hw _ (List.mem_of_getElem? (i := 16) rfl))) Via.refl e2 F_rows_o0 (g := (mkF m 15 #[.val (.ref o0), .val (.int (0 : Int32))] [(.ref o0), (.ref v0)])) rfl rfl (hb hby d3_15)
  obtain ⟨cq4, Arq4, -, Sq4, -, Hq4, -⟩ := id V_w0
  obtain ⟨cq5, Arq5, qq5, Sq5, Nq5, Hq5, Gq5⟩ := id V_v0
  obtain ⟨T6, h6, X6, e6, W6, st6⟩ := stD X3 hx hZ e3 Arq5 (j := q0) (inb_of Sq5 hx0) (g := (mkF m 21 #[.val (.ref o0), .val (.int (0 : Int32))] [(.double (0 : UInt64)), (.int q0), (.ref v0)])) rfl rfl (hb hby d3_21)
  have f7 := F_values_o0.other W6 (Or.inl ne_o0_v0)
  have f8 := F_listed_o0.other W6 (Or.inl ne_o0_v0)
  have f9 := F_rows_o0.other W6 (Or.inl ne_o0_v0)
  have f10 := F_count_o0.other W6 (Or.inl ne_o0_v0)
  have f11 := E_o0.wr W6
  have f12 := V_l0.other W6 (Ne.symm ne_v0_l0)
  have f13 := V_w0.other W6 (Ne.symm ne_v0_w0)
  have K6 : Keep h0 h6 [v0, l0, o0] := (Keep.refl h0 [v0, l0, o0]).wr W6 (Or.inl (List.mem_of_getElem? (i := 0) rfl))
  have Zs6 := Nat.le_trans Z0 (Keep.of_wr W6).1
  have N6 := Fr.snoc X6 N0 g_v0
  have f14 : Arv Z h6 v0 kv .double (4 : Int32) (vs.set q0.toNatClampNeg (.double (0 : UInt64))) (.double (0 : UInt64)) := Arv.set Arq5 qq5 Sq5 Nq5 Hq5 Gq5 rfl W6 q0.toNatClampNeg rfl (by (try simp only [List.length_set]); exact hv0)
  obtain ⟨T15, X15, e15, st15⟩ := getF X6 hx hZ hown (host := "") (Or.inl (hw _ (List.mem_of_getElem? (i := 13) rfl))) Via.refl e6 f8 (g := (mkF m 23 #[.val (.ref o0), .val (.int (0 : Int32))] [(.ref o0)])) rfl rfl (hb hby d3_23)
  obtain ⟨T16, X16, e16, st16⟩ := getF X15 hx hZ hown (host := "") (Or.inl (hw _ (List.mem_of_getElem? (i := 16) rfl))) Via.refl e15 f9 (g := (mkF m 27 #[.val (.ref o0), .val (.int (0 : Int32))] [(.ref o0), (.ref l0)])) rfl rfl (hb hby d3_27)
  obtain ⟨cq17, Arq17, -, Sq17, -, Hq17, -⟩ := id f13
  obtain ⟨cq18, Arq18, qq18, Sq18, Nq18, Hq18, Gq18⟩ := id f12
  obtain ⟨T19, h19, X19, e19, W19, st19⟩ := stZ X16 hx hZ e16 Arq18 (j := q0) (inb_of Sq18 hx0) (g := (mkF m 33 #[.val (.ref o0), .val (.int (0 : Int32))] [(.int (0 : Int32)), (.int q0), (.ref l0)])) rfl rfl (hb hby d3_33)
  have f20 := f7.other W19 (Or.inl ne_o0_l0)
  have f21 := f8.other W19 (Or.inl ne_o0_l0)
  have f22 := f9.other W19 (Or.inl ne_o0_l0)
  have f23 := f10.other W19 (Or.inl ne_o0_l0)
  have f24 := f11.wr W19
  have f25 := f14.other W19 ne_v0_l0
  have f26 := f13.other W19 (Ne.symm ne_l0_w0)
  have K19 : Keep h0 h19 [v0, l0, o0] := K6.wr W19 (Or.inl (List.mem_of_getElem? (i := 1) rfl))
  have Zs19 := Nat.le_trans Zs6 (Keep.of_wr W19).1
  have N19 := Fr.snoc X19 N6 g_l0
  have f27 : Arv Z h19 l0 kl .boolean (4 : Int32) (ls.set q0.toNatClampNeg (.int (0 : Int32))) (.int (0 : Int32)) := Arv.set Arq18 qq18 Sq18 Nq18 Hq18 Gq18 (by decide) W19 q0.toNatClampNeg rfl (by (try simp only [List.length_set]); exact hl0)
  obtain ⟨T28, X28, e28, st28⟩ := getF X19 hx hZ hown (host := "") (Or.inl (hw _ (List.mem_of_getElem? (i := 23) rfl))) Via.refl e19 f23 (g := (mkF m 4 #[.val (.ref o0), .val (.int (1 : Int32))] [(.ref o0), (.int (1 : Int32))])) rfl rfl (hb hby d3_4)
  obtain ⟨T29, h29, X29, e29, W29, st29⟩ := putF X28 hx hZ hown (host := "") (Or.inl (hw _ (List.mem_of_getElem? (i := 23) rfl))) Via.refl e28 f23 f24 (Or.inl (hw _ (List.mem_of_getElem? (i := 24) rfl))) (hw _ (List.mem_of_getElem? (i := 1) rfl)) (ty := .int) (by decide) rfl rfl (g := (mkF m 42 #[.val (.ref o0), .val (.int (1 : Int32))] [(.int (0 : Int32)), (.ref o0)])) rfl rfl (hb hby d3_42)
  have f30 := f20.other W29 (Or.inr (so_SparseColumn_values_count hw))
  have f31 := f21.other W29 (Or.inr (so_SparseColumn_listed_count hw))
  have f32 := f22.other W29 (Or.inr (so_SparseColumn_rows_count hw))
  have f33 := f24.wr W29
  have f34 := f25.other W29 (Ne.symm ne_o0_v0)
  have f35 := f27.other W29 (Ne.symm ne_o0_l0)
  have f36 := f26.other W29 (Ne.symm ne_o0_w0)
  have K29 : Keep h0 h29 [v0, l0, o0] := K19.wr W29 (Or.inl (List.mem_of_getElem? (i := 2) rfl))
  have Zs29 := Nat.le_trans Zs19 (Keep.of_wr W29).1
  have N29 := Fr.snoc X29 N19 g_o0
  have f37 : Fld Z h29 o0 "com/example/leeway/leeway/lp/SparseColumn" "count" "I" (.int (0 : Int32)) := f23.same W29
  have f38 : Arv Z h29 v0 kv .double (4 : Int32) vs1 (.double (0 : UInt64)) := (hvs : (vs.set q0.toNatClampNeg (.double (0 : UInt64))) = vs1) ▸ f34
  have f39 : Arv Z h29 l0 kl .boolean (4 : Int32) ls1 (.int (0 : Int32)) := (hls : (ls.set q0.toNatClampNeg (.int (0 : Int32))) = ls1) ▸ f35
  obtain ⟨fs, hr, hrun, hended, hW, hsame⟩ := X29.leave (v := none) (fun _ => rfl)
  refine ⟨_, _, pre0 _ ?_, hrun, hended, _, _, rfl, ?_, ⟨_, rfl⟩, hW, hsame.mono (by decide) (by decide)⟩
  · show Steps p.tables e below (s₁.setTop (mkF m 0 #[.val (.ref o0), .unset] [])) _
    refine XS.iconst X0.here hx rfl (hb hby d3_0) ?_
    show Steps p.tables e below (s₁.setTop (mkF m 1 #[.val (.ref o0), .unset] [(.int (0 : Int32))])) _
    refine XS.istoreN X0.here hx rfl (hb hby d3_1) rfl (l' := #[.val (.ref o0), .val (.int (0 : Int32))]) rfl ?_
    show Steps p.tables e below (s₁.setTop (mkF m 2 #[.val (.ref o0), .val (.int (0 : Int32))] [])) _
    refine XS.iloadN X0.here hx rfl (hb hby d3_2) rfl ?_
    show Steps p.tables e below (s₁.setTop (mkF m 3 #[.val (.ref o0), .val (.int (0 : Int32))] [(.int (0 : Int32))])) _
    refine XS.aloadN X0.here hx rfl (hb hby d3_3) rfl rfl ?_
    show Steps p.tables e below (s₁.setTop (mkF m 4 #[.val (.ref o0), .val (.int (0 : Int32))] [(.ref o0), (.int (0 : Int32))])) _
    refine st1 _ ?_
    show Steps p.tables e below (T1.setTop (mkF m 7 #[.val (.ref o0), .val (.int (0 : Int32))] [(.int (1 : Int32)), (.int (0 : Int32))])) _
    refine XS.icmpNo X1.here hx rfl (hb hby d3_7) rfl (tlt (by decide : (0 : Int32) < (1 : Int32))).2.1 ?_
    show Steps p.tables e below (T1.setTop (mkF m 10 #[.val (.ref o0), .val (.int (0 : Int32))] [])) _
    refine XS.aloadN X1.here hx rfl (hb hby d3_10) rfl rfl ?_
    show Steps p.tables e below (T1.setTop (mkF m 11 #[.val (.ref o0), .val (.int (0 : Int32))] [(.ref o0)])) _
    refine st2 _ ?_
    show Steps p.tables e below (T2.setTop (mkF m 14 #[.val (.ref o0), .val (.int (0 : Int32))] [(.ref v0)])) _
    refine XS.aloadN X2.here hx rfl (hb hby d3_14) rfl rfl ?_
    show Steps p.tables e below (T2.setTop (mkF m 15 #[.val (.ref o0), .val (.int (0 : Int32))] [(.ref o0), (.ref v0)])) _
    refine st3 _ ?_
    show Steps p.tables e below (T3.setTop (mkF m 18 #[.val (.ref o0), .val (.int (0 : Int32))] [(.ref w0), (.ref v0)])) _
    refine XS.iloadN X3.here hx rfl (hb hby d3_18) rfl ?_
    show Steps p.tables e below (T3.setTop (mkF m 19 #[.val (.ref o0), .val (.int (0 : Int32))] [(.int (0 : Int32)), (.ref w0), (.ref v0)])) _
    refine X3.iaload hx (j := (0 : Int32)) (v := (.int q0)) (by rw [e3]; exact Arq4.1) (State.isArrayOf_alike hZ.alike Arq4.2.1) Arq4.2.2 (inb_of Sq4 ⟨by decide, by decide⟩) (Has.at Hq4 (inb_of Sq4 ⟨by decide, by decide⟩) rfl) (g := (mkF m 19 #[.val (.ref o0), .val (.int (0 : Int32))] [(.int (0 : Int32)), (.ref w0), (.ref v0)])) rfl rfl (hb hby d3_19) _ ?_
    show Steps p.tables e below (T3.setTop (mkF m 20 #[.val (.ref o0), .val (.int (0 : Int32))] [(.int q0), (.ref v0)])) _
    refine XS.dconst0 X3.here hx rfl (hb hby d3_20) (v := (0 : UInt64)) rfl ?_
    show Steps p.tables e below (T3.setTop (mkF m 21 #[.val (.ref o0), .val (.int (0 : Int32))] [(.double (0 : UInt64)), (.int q0), (.ref v0)])) _
    refine st6 _ ?_
    show Steps p.tables e below (T6.setTop (mkF m 22 #[.val (.ref o0), .val (.int (0 : Int32))] [])) _
    refine XS.aloadN X6.here hx rfl (hb hby d3_22) rfl rfl ?_
    show Steps p.tables e below (T6.setTop (mkF m 23 #[.val (.ref o0), .val (.int (0 : Int32))] [(.ref o0)])) _
    refine st15 _ ?_
    show Steps p.tables e below (T15.setTop (mkF m 26 #[.val (.ref o0), .val (.int (0 : Int32))] [(.ref l0)])) _
    refine XS.aloadN X15.here hx rfl (hb hby d3_26) rfl rfl ?_
    show Steps p.tables e below (T15.setTop (mkF m 27 #[.val (.ref o0), .val (.int (0 : Int32))] [(.ref o0), (.ref l0)])) _
    refine st16 _ ?_
    show Steps p.tables e below (T16.setTop (mkF m 30 #[.val (.ref o0), .val (.int (0 : Int32))] [(.ref w0), (.ref l0)])) _
    refine XS.iloadN X16.here hx rfl (hb hby d3_30) rfl ?_
    show Steps p.tables e below (T16.setTop (mkF m 31 #[.val (.ref o0), .val (.int (0 : Int32))] [(.int (0 : Int32)), (.ref w0), (.ref l0)])) _
    refine X16.iaload hx (j := (0 : Int32)) (v := (.int q0)) (by rw [e16]; exact Arq17.1) (State.isArrayOf_alike hZ.alike Arq17.2.1) Arq17.2.2 (inb_of Sq17 ⟨by decide, by decide⟩) (Has.at Hq17 (inb_of Sq17 ⟨by decide, by decide⟩) rfl) (g := (mkF m 31 #[.val (.ref o0), .val (.int (0 : Int32))] [(.int (0 : Int32)), (.ref w0), (.ref l0)])) rfl rfl (hb hby d3_31) _ ?_
    show Steps p.tables e below (T16.setTop (mkF m 32 #[.val (.ref o0), .val (.int (0 : Int32))] [(.int q0), (.ref l0)])) _
    refine XS.iconst X16.here hx rfl (hb hby d3_32) ?_
    show Steps p.tables e below (T16.setTop (mkF m 33 #[.val (.ref o0), .val (.int (0 : Int32))] [(.int (0 : Int32)), (.int q0), (.ref l0)])) _
    refine st19 _ ?_
    show Steps p.tables e below (T19.setTop (mkF m 34 #[.val (.ref o0), .val (.int (0 : Int32))] [])) _
    refine XS.iinc X19.here hx rfl (hb hby d3_34) rfl (l' := #[.val (.ref o0), .val (.int ((0 : Int32) + (1 : Int32)))]) rfl ?_
    show Steps p.tables e below (T19.setTop (mkF m 37 #[.val (.ref o0), .val (.int ((0 : Int32) + (1 : Int32)))] [])) _
    rw [show ((0 : Int32) + (1 : Int32)) = (1 : Int32) by decide]
    show Steps p.tables e below (T19.setTop (mkF m 37 #[.val (.ref o0), .val (.int (1 : Int32))] [])) _
    refine XS.goto X19.here hx rfl (pc0 := 37) (pc' := 2) rfl (hb hby d3_37) (by decide) (by decide) ?_
    show Steps p.tables e below (T19.setTop (mkF m 2 #[.val (.ref o0), .val (.int (1 : Int32))] [])) _
    refine XS.iloadN X19.here hx rfl (hb hby d3_2) rfl ?_
    show Steps p.tables e below (T19.setTop (mkF m 3 #[.val (.ref o0), .val (.int (1 : Int32))] [(.int (1 : Int32))])) _
    refine XS.aloadN X19.here hx rfl (hb hby d3_3) rfl rfl ?_
    show Steps p.tables e below (T19.setTop (mkF m 4 #[.val (.ref o0), .val (.int (1 : Int32))] [(.ref o0), (.int (1 : Int32))])) _
    refine st28 _ ?_
    show Steps p.tables e below (T28.setTop (mkF m 7 #[.val (.ref o0), .val (.int (1 : Int32))] [(.int (1 : Int32)), (.int (1 : Int32))])) _
    refine XS.icmpYes X28.here hx rfl (pc0 := 7) (pc' := 40) rfl (hb hby d3_7) rfl (flt (by decide : ¬ ((1 : Int32) < (1 : Int32)))).2.1 (by decide) (by decide) ?_
    show Steps p.tables e below (T28.setTop (mkF m 40 #[.val (.ref o0), .val (.int (1 : Int32))] [])) _
    refine XS.aloadN X28.here hx rfl (hb hby d3_40) rfl rfl ?_
    show Steps p.tables e below (T28.setTop (mkF m 41 #[.val (.ref o0), .val (.int (1 : Int32))] [(.ref o0)])) _
    refine XS.iconst X28.here hx rfl (hb hby d3_41) ?_
    show Steps p.tables e below (T28.setTop (mkF m 42 #[.val (.ref o0), .val (.int (1 : Int32))] [(.int (0 : Int32)), (.ref o0)])) _
    refine st29 _ ?_
    show Steps p.tables e below (T29.setTop (mkF m 45 #[.val (.ref o0), .val (.int (1 : Int32))] [])) _
    exact X29.returnOut hx Bd.returns (hb hby d3_45) hr
  · show Q_clr1 Z o0 v0 l0 w0 kv kl kw q0 q1 q2 q3 vs ls vs1 ls1 h0 n0 _ T29.heap _
    rw [e29]
    exact ⟨rfl, N29, K29, f33, f30, f31, f32, f37, f38, f39, f36⟩
def Q_clr2 (Z : State) (o0 : Addr) (v0 : Addr) (l0 : Addr) (w0 : Addr) (kv : ClassId) (kl : ClassId) (kw : ClassId) (q0 : Int32) (q1 : Int32) (q2 : Int32) (q3 : Int32) (vs : List Value) (ls : List Value) (vs1 : List Value) (ls1 : List Value) (h0 : Heap) (n0 : Nat) (v : Option Value) (h : Heap) (L : List Loc) : Prop := v = none ∧ Fr n0 L ∧ Keep h0 h [v0, l0, o0] ∧ Exa Z h o0 "com/example/leeway/leeway/lp/SparseColumn" ∧ Fld Z h o0 "com/example/leeway/leeway/lp/SparseColumn" "values" "[D" (.ref v0) ∧ Fld Z h o0 "com/example/leeway/leeway/lp/SparseColumn" "listed" "[Z" (.ref l0) ∧ Fld Z h o0 "com/example/leeway/leeway/lp/SparseColumn" "rows" "[I" (.ref w0) ∧ Fld Z h o0 "com/example/leeway/leeway/lp/SparseColumn" "count" "I" (.int (0 : Int32)) ∧ Arv Z h v0 kv .double (4 : Int32) vs1 (.double (0 : UInt64)) ∧ Arv Z h l0 kl .boolean (4 : Int32) ls1 (.int (0 : Int32)) ∧ Arv Z h w0 kw .int (4 : Int32) [(.int q0), (.int q1), (.int q2), (.int q3)] (.int (0 : Int32))
set_option maxRecDepth 65536 in
set_option maxHeartbeats 40000000 in
theorem clr2 (l : Launch) (Z : State) (a0 : Array Value) (hw : ∀ d ∈ tables_1, d.before a0 Z = true) (ws : List Jvm.Cond) (o0 : Addr) (v0 : Addr) (l0 : Addr) (w0 : Addr) (kv : ClassId) (kl : ClassId) (kw : ClassId) (q0 : Int32) (q1 : Int32) (q2 : Int32) (q3 : Int32) (vs : List Value) (ls : List Value) (vs1 : List Value) (ls1 : List Value) (h0 : Heap) (n0 : Nat) (Z0 : n0 ≤ h0.size) (F_values_o0 : Fld Z h0 o0 "com/example/leeway/leeway/lp/SparseColumn" "values" "[D" (.ref v0)) (F_listed_o0 : Fld Z h0 o0 "com/example/leeway/leeway/lp/SparseColumn" "listed" "[Z" (.ref l0)) (F_rows_o0 : Fld Z h0 o0 "com/example/leeway/leeway/lp/SparseColumn" "rows" "[I" (.ref w0)) (F_count_o0 : Fld Z h0 o0 "com/example/leeway/leeway/lp/SparseColumn" "count" "I" (.int (2 : Int32))) (E_o0 : Exa Z h0 o0 "com/example/leeway/leeway/lp/SparseColumn") (V_v0 : Arv Z h0 v0 kv .double (4 : Int32) vs (.double (0 : UInt64))) (V_l0 : Arv Z h0 l0 kl .boolean (4 : Int32) ls (.int (0 : Int32))) (V_w0 : Arv Z h0 w0 kw .int (4 : Int32) [(.int q0), (.int q1), (.int q2), (.int q3)] (.int (0 : Int32))) (g_o0 : n0 ≤ o0) (g_v0 : n0 ≤ v0) (g_l0 : n0 ≤ l0) (g_w0 : n0 ≤ w0) (ne_o0_v0 : o0 ≠ v0) (ne_o0_l0 : o0 ≠ l0) (ne_o0_w0 : o0 ≠ w0) (ne_v0_l0 : v0 ≠ l0) (ne_v0_w0 : v0 ≠ w0) (ne_l0_w0 : l0 ≠ w0) (hx0 : ¬ q0 < 0 ∧ q0 < (4 : Int32)) (hv0 : q0.toNatClampNeg < vs.length) (hl0 : q0.toNatClampNeg < ls.length) (hx1 : ¬ q1 < 0 ∧ q1 < (4 : Int32)) (hv1 : q1.toNatClampNeg < vs.length) (hl1 : q1.toNatClampNeg < ls.length) (hvs : ((vs.set q0.toNatClampNeg (.double (0 : UInt64))).set q1.toNatClampNeg (.double (0 : UInt64))) = vs1) (hls : ((ls.set q0.toNatClampNeg (.int (0 : Int32))).set q1.toNatClampNeg (.int (0 : Int32))) = ls1) :
    MetFree l (⟨"com/example/leeway/leeway/lp/SparseColumn", "clear", "()V"⟩ : MethodName) (head1 (Jvm.Cond.code (⟨"com/example/leeway/leeway/lp/SparseColumn", "clear", "()V"⟩ : MethodName) prog_87_method_5_code 2 none :: ws) ({ frames := 0, cells := 0, slots := 0, locals := 0 } : Room)) (fun a U => a = #[(.ref o0)] ∧ Z.Warmed39 U.vm ∧ U.heap = h0) (fun _ _ _ _ _ => True) (fun _ U o U' => ∃ v L, o = .returned v ∧ Q_clr2 Z o0 v0 l0 w0 kv kl kw q0 q1 q2 q3 vs ls vs1 ls1 h0 n0 v U'.heap L ∧ FrameEnd U o U' L ({ frames := 0, cells := 0, slots := 0, locals := 0 } : Room).cells ({ frames := 0, cells := 0, slots := 0, locals := 0 } : Room).slots) := by
  refine MetFree.of_bodySF (plainFor_of_name pn_com_example_leeway_leeway_lp_SparseColumn) hisR ?_
  intro p e s m args below meth c s₁ Bd hml0 hP hK
  obtain ⟨rfl, hZ, hh⟩ := hP
  have hx := Bd.exec
  have hby := Bd.bytes
  have hml : c.maxLocals = 2 := hml0
  have hown : s.vm.findClass "com/example/leeway/leeway/lp/SparseColumn" = some m.cls := findClass_of_methodNamed Bd.named
  have hnm := (name_of_methodNamed Bd.named Bd.method).1
  have X0 : Stand p l e ({ frames := 0, cells := 0, slots := 0, locals := 0 } : Room) s m #[(.ref o0)] below meth c s₁ [] 0 0 := Stand.of_body Bd
  have e0 : s₁.heap = h0 := by rw [← hh, Bd.state]; rfl
  have N0 := Fr.nil n0
  have pre0 : ∀ t, Steps p.tables e below (s₁.setTop (mkF m 0 #[.val (.ref o0), .unset] [])) t → Steps p.tables e below (s₁.setTop (entryFrame m #[(.ref o0)] 2)) t := fun t k => castTop (ef_3_R m o0) k
  obtain ⟨T1, X1, e1, st1⟩ := getF X0 hx hZ hown (host := "") (Or.inl (hw _ (List.mem_of_getElem? (i := 23) rfl))) Via.refl e0 F_count_o0 (g := (mkF m 4 #[.val (.ref o0), .val (.int (0 : Int32))] [(.ref o0), (.int (0 : Int32))])) rfl rfl (hb hby d3_4)
  obtain ⟨T2, X2, e2, st2⟩ := getF X1 hx hZ hown (host := "") (Or.inl (hw _ (List.mem_of_getElem? (i := 10) rfl))) Via.refl e1 F_values_o0 (g := (mkF m 11 #[.val (.ref o0), .val (.int (0 : Int32))] [(.ref o0)])) rfl rfl (hb hby d3_11)
  obtain ⟨T3, X3, e3, st3⟩ := getF X2 hx hZ hown (host := "") (Or.inl (hw _ (List.mem_of_getElem? (i := 16) rfl))) Via.refl e2 F_rows_o0 (g := (mkF m 15 #[.val (.ref o0), .val (.int (0 : Int32))] [(.ref o0), (.ref v0)])) rfl rfl (hb hby d3_15)
  obtain ⟨cq4, Arq4, -, Sq4, -, Hq4, -⟩ := id V_w0
  obtain ⟨cq5, Arq5, qq5, Sq5, Nq5, Hq5, Gq5⟩ := id V_v0
  obtain ⟨T6, h6, X6, e6, W6, st6⟩ := stD X3 hx hZ e3 Arq5 (j := q0) (inb_of Sq5 hx0) (g := (mkF m 21 #[.val (.ref o0), .val (.int (0 : Int32))] [(.double (0 : UInt64)), (.int q0), (.ref v0)])) rfl rfl (hb hby d3_21)
  have f7 := F_values_o0.other W6 (Or.inl ne_o0_v0)
  have f8 := F_listed_o0.other W6 (Or.inl ne_o0_v0)
  have f9 := F_rows_o0.other W6 (Or.inl ne_o0_v0)
  have f10 := F_count_o0.other W6 (Or.inl ne_o0_v0)
  have f11 := E_o0.wr W6
  have f12 := V_l0.other W6 (Ne.symm ne_v0_l0)
  have f13 := V_w0.other W6 (Ne.symm ne_v0_w0)
  have K6 : Keep h0 h6 [v0, l0, o0] := (Keep.refl h0 [v0, l0, o0]).wr W6 (Or.inl (List.mem_of_getElem? (i := 0) rfl))
  have Zs6 := Nat.le_trans Z0 (Keep.of_wr W6).1
  have N6 := Fr.snoc X6 N0 g_v0
  have f14 : Arv Z h6 v0 kv .double (4 : Int32) (vs.set q0.toNatClampNeg (.double (0 : UInt64))) (.double (0 : UInt64)) := Arv.set Arq5 qq5 Sq5 Nq5 Hq5 Gq5 rfl W6 q0.toNatClampNeg rfl (by (try simp only [List.length_set]); exact hv0)
  obtain ⟨T15, X15, e15, st15⟩ := getF X6 hx hZ hown (host := "") (Or.inl (hw _ (List.mem_of_getElem? (i := 13) rfl))) Via.refl e6 f8 (g := (mkF m 23 #[.val (.ref o0), .val (.int (0 : Int32))] [(.ref o0)])) rfl rfl (hb hby d3_23)
  obtain ⟨T16, X16, e16, st16⟩ := getF X15 hx hZ hown (host := "") (Or.inl (hw _ (List.mem_of_getElem? (i := 16) rfl))) Via.refl e15 f9 (g := (mkF m 27 #[.val (.ref o0), .val (.int (0 : Int32))] [(.ref o0), (.ref l0)])) rfl rfl (hb hby d3_27)
  obtain ⟨cq17, Arq17, -, Sq17, -, Hq17, -⟩ := id f13
  obtain ⟨cq18, Arq18, qq18, Sq18, Nq18, Hq18, Gq18⟩ := id f12
  obtain ⟨T19, h19, X19, e19, W19, st19⟩ := stZ X16 hx hZ e16 Arq18 (j := q0) (inb_of Sq18 hx0) (g := (mkF m 33 #[.val (.ref o0), .val (.int (0 : Int32))] [(.int (0 : Int32)), (.int q0), (.ref l0)])) rfl rfl (hb hby d3_33)
  have f20 := f7.other W19 (Or.inl ne_o0_l0)
  have f21 := f8.other W19 (Or.inl ne_o0_l0)
  have f22 := f9.other W19 (Or.inl ne_o0_l0)
  have f23 := f10.other W19 (Or.inl ne_o0_l0)
  have f24 := f11.wr W19
  have f25 := f14.other W19 ne_v0_l0
  have f26 := f13.other W19 (Ne.symm ne_l0_w0)
  have K19 : Keep h0 h19 [v0, l0, o0] := K6.wr W19 (Or.inl (List.mem_of_getElem? (i := 1) rfl))
  have Zs19 := Nat.le_trans Zs6 (Keep.of_wr W19).1
  have N19 := Fr.snoc X19 N6 g_l0
  have f27 : Arv Z h19 l0 kl .boolean (4 : Int32) (ls.set q0.toNatClampNeg (.int (0 : Int32))) (.int (0 : Int32)) := Arv.set Arq18 qq18 Sq18 Nq18 Hq18 Gq18 (by decide) W19 q0.toNatClampNeg rfl (by (try simp only [List.length_set]); exact hl0)
  obtain ⟨T28, X28, e28, st28⟩ := getF X19 hx hZ hown (host := "") (Or.inl (hw _ (List.mem_of_getElem? (i := 23) rfl))) Via.refl e19 f23 (g := (mkF m 4 #[.val (.ref o0), .val (.int (1 : Int32))] [(.ref o0), (.int (1 : Int32))])) rfl rfl (hb hby d3_4)
  obtain ⟨T29, X29, e29, st29⟩ := getF X28 hx hZ hown (host := "") (Or.inl (hw _ (List.mem_of_getElem? (i := 10) rfl))) Via.refl e28 f20 (g := (mkF m 11 #[.val (.ref o0), .val (.int (1 : Int32))] [(.ref o0)])) rfl rfl (hb hby d3_11)
  obtain ⟨T30, X30, e30, st30⟩ := getF X29 hx hZ hown (host := "") (Or.inl (hw _ (List.mem_of_getElem? (i := 16) rfl))) Via.refl e29 f22 (g := (mkF m 15 #[.val (.ref o0), .val (.int (1 : Int32))] [(.ref o0), (.ref v0)])) rfl rfl (hb hby d3_15)
  obtain ⟨cq31, Arq31, -, Sq31, -, Hq31, -⟩ := id f26
  obtain ⟨cq32, Arq32, qq32, Sq32, Nq32, Hq32, Gq32⟩ := id f25
  obtain ⟨T33, h33, X33, e33, W33, st33⟩ := stD X30 hx hZ e30 Arq32 (j := q1) (inb_of Sq32 hx1) (g := (mkF m 21 #[.val (.ref o0), .val (.int (1 : Int32))] [(.double (0 : UInt64)), (.int q1), (.ref v0)])) rfl rfl (hb hby d3_21)
  have f34 := f20.other W33 (Or.inl ne_o0_v0)
  have f35 := f21.other W33 (Or.inl ne_o0_v0)
  have f36 := f22.other W33 (Or.inl ne_o0_v0)
  have f37 := f23.other W33 (Or.inl ne_o0_v0)
  have f38 := f24.wr W33
  have f39 := f27.other W33 (Ne.symm ne_v0_l0)
  have f40 := f26.other W33 (Ne.symm ne_v0_w0)
  have K33 : Keep h0 h33 [v0, l0, o0] := K19.wr W33 (Or.inl (List.mem_of_getElem? (i := 0) rfl))
  have Zs33 := Nat.le_trans Zs19 (Keep.of_wr W33).1
  have N33 := Fr.snoc X33 N19 g_v0
  have f41 : Arv Z h33 v0 kv .double (4 : Int32) ((vs.set q0.toNatClampNeg (.double (0 : UInt64))).set q1.toNatClampNeg (.double (0 : UInt64))) (.double (0 : UInt64)) := Arv.set Arq32 qq32 Sq32 Nq32 Hq32 Gq32 rfl W33 q1.toNatClampNeg rfl (by (try simp only [List.length_set]); exact hv1)
  obtain ⟨T42, X42, e42, st42⟩ := getF X33 hx hZ hown (host := "") (Or.inl (hw _ (List.mem_of_getElem? (i := 13) rfl))) Via.refl e33 f35 (g := (mkF m 23 #[.val (.ref o0), .val (.int (1 : Int32))] [(.ref o0)])) rfl rfl (hb hby d3_23)
  obtain ⟨T43, X43, e43, st43⟩ := getF X42 hx hZ hown (host := "") (Or.inl (hw _ (List.mem_of_getElem? (i := 16) rfl))) Via.refl e42 f36 (g := (mkF m 27 #[.val (.ref o0), .val (.int (1 : Int32))] [(.ref o0), (.ref l0)])) rfl rfl (hb hby d3_27)
  obtain ⟨cq44, Arq44, -, Sq44, -, Hq44, -⟩ := id f40
  obtain ⟨cq45, Arq45, qq45, Sq45, Nq45, Hq45, Gq45⟩ := id f39
  obtain ⟨T46, h46, X46, e46, W46, st46⟩ := stZ X43 hx hZ e43 Arq45 (j := q1) (inb_of Sq45 hx1) (g := (mkF m 33 #[.val (.ref o0), .val (.int (1 : Int32))] [(.int (0 : Int32)), (.int q1), (.ref l0)])) rfl rfl (hb hby d3_33)
  have f47 := f34.other W46 (Or.inl ne_o0_l0)
  have f48 := f35.other W46 (Or.inl ne_o0_l0)
  have f49 := f36.other W46 (Or.inl ne_o0_l0)
  have f50 := f37.other W46 (Or.inl ne_o0_l0)
  have f51 := f38.wr W46
  have f52 := f41.other W46 ne_v0_l0
  have f53 := f40.other W46 (Ne.symm ne_l0_w0)
  have K46 : Keep h0 h46 [v0, l0, o0] := K33.wr W46 (Or.inl (List.mem_of_getElem? (i := 1) rfl))
  have Zs46 := Nat.le_trans Zs33 (Keep.of_wr W46).1
  have N46 := Fr.snoc X46 N33 g_l0
  have f54 : Arv Z h46 l0 kl .boolean (4 : Int32) ((ls.set q0.toNatClampNeg (.int (0 : Int32))).set q1.toNatClampNeg (.int (0 : Int32))) (.int (0 : Int32)) := Arv.set Arq45 qq45 Sq45 Nq45 Hq45 Gq45 (by decide) W46 q1.toNatClampNeg rfl (by (try simp only [List.length_set]); exact hl1)
  obtain ⟨T55, X55, e55, st55⟩ := getF X46 hx hZ hown (host := "") (Or.inl (hw _ (List.mem_of_getElem? (i := 23) rfl))) Via.refl e46 f50 (g := (mkF m 4 #[.val (.ref o0), .val (.int (2 : Int32))] [(.ref o0), (.int (2 : Int32))])) rfl rfl (hb hby d3_4)
  obtain ⟨T56, h56, X56, e56, W56, st56⟩ := putF X55 hx hZ hown (host := "") (Or.inl (hw _ (List.mem_of_getElem? (i := 23) rfl))) Via.refl e55 f50 f51 (Or.inl (hw _ (List.mem_of_getElem? (i := 24) rfl))) (hw _ (List.mem_of_getElem? (i := 1) rfl)) (ty := .int) (by decide) rfl rfl (g := (mkF m 42 #[.val (.ref o0), .val (.int (2 : Int32))] [(.int (0 : Int32)), (.ref o0)])) rfl rfl (hb hby d3_42)
  have f57 := f47.other W56 (Or.inr (so_SparseColumn_values_count hw))
  have f58 := f48.other W56 (Or.inr (so_SparseColumn_listed_count hw))
  have f59 := f49.other W56 (Or.inr (so_SparseColumn_rows_count hw))
  have f60 := f51.wr W56
  have f61 := f52.other W56 (Ne.symm ne_o0_v0)
  have f62 := f54.other W56 (Ne.symm ne_o0_l0)
  have f63 := f53.other W56 (Ne.symm ne_o0_w0)
  have K56 : Keep h0 h56 [v0, l0, o0] := K46.wr W56 (Or.inl (List.mem_of_getElem? (i := 2) rfl))
  have Zs56 := Nat.le_trans Zs46 (Keep.of_wr W56).1
  have N56 := Fr.snoc X56 N46 g_o0
  have f64 : Fld Z h56 o0 "com/example/leeway/leeway/lp/SparseColumn" "count" "I" (.int (0 : Int32)) := f50.same W56
  have f65 : Arv Z h56 v0 kv .double (4 : Int32) vs1 (.double (0 : UInt64)) := (hvs : ((vs.set q0.toNatClampNeg (.double (0 : UInt64))).set q1.toNatClampNeg (.double (0 : UInt64))) = vs1) ▸ f61
  have f66 : Arv Z h56 l0 kl .boolean (4 : Int32) ls1 (.int (0 : Int32)) := (hls : ((ls.set q0.toNatClampNeg (.int (0 : Int32))).set q1.toNatClampNeg (.int (0 : Int32))) = ls1) ▸ f62
  obtain ⟨fs, hr, hrun, hended, hW, hsame⟩ := X56.leave (v := none) (fun _ => rfl)
  refine ⟨_, _, pre0 _ ?_, hrun, hended, _, _, rfl, ?_, ⟨_, rfl⟩, hW, hsame.mono (by decide) (by decide)⟩
  · show Steps p.tables e below (s₁.setTop (mkF m 0 #[.val (.ref o0), .unset] [])) _
    refine XS.iconst X0.here hx rfl (hb hby d3_0) ?_
    show Steps p.tables e below (s₁.setTop (mkF m 1 #[.val (.ref o0), .unset] [(.int (0 : Int32))])) _
    refine XS.istoreN X0.here hx rfl (hb hby d3_1) rfl (l' := #[.val (.ref o0), .val (.int (0 : Int32))]) rfl ?_
    show Steps p.tables e below (s₁.setTop (mkF m 2 #[.val (.ref o0), .val (.int (0 : Int32))] [])) _
    refine XS.iloadN X0.here hx rfl (hb hby d3_2) rfl ?_
    show Steps p.tables e below (s₁.setTop (mkF m 3 #[.val (.ref o0), .val (.int (0 : Int32))] [(.int (0 : Int32))])) _
    refine XS.aloadN X0.here hx rfl (hb hby d3_3) rfl rfl ?_
    show Steps p.tables e below (s₁.setTop (mkF m 4 #[.val (.ref o0), .val (.int (0 : Int32))] [(.ref o0), (.int (0 : Int32))])) _
    refine st1 _ ?_
    show Steps p.tables e below (T1.setTop (mkF m 7 #[.val (.ref o0), .val (.int (0 : Int32))] [(.int (2 : Int32)), (.int (0 : Int32))])) _
    refine XS.icmpNo X1.here hx rfl (hb hby d3_7) rfl (tlt (by decide : (0 : Int32) < (2 : Int32))).2.1 ?_
    show Steps p.tables e below (T1.setTop (mkF m 10 #[.val (.ref o0), .val (.int (0 : Int32))] [])) _
    refine XS.aloadN X1.here hx rfl (hb hby d3_10) rfl rfl ?_
    show Steps p.tables e below (T1.setTop (mkF m 11 #[.val (.ref o0), .val (.int (0 : Int32))] [(.ref o0)])) _
    refine st2 _ ?_
    show Steps p.tables e below (T2.setTop (mkF m 14 #[.val (.ref o0), .val (.int (0 : Int32))] [(.ref v0)])) _
    refine XS.aloadN X2.here hx rfl (hb hby d3_14) rfl rfl ?_
    show Steps p.tables e below (T2.setTop (mkF m 15 #[.val (.ref o0), .val (.int (0 : Int32))] [(.ref o0), (.ref v0)])) _
    refine st3 _ ?_
    show Steps p.tables e below (T3.setTop (mkF m 18 #[.val (.ref o0), .val (.int (0 : Int32))] [(.ref w0), (.ref v0)])) _
    refine XS.iloadN X3.here hx rfl (hb hby d3_18) rfl ?_
    show Steps p.tables e below (T3.setTop (mkF m 19 #[.val (.ref o0), .val (.int (0 : Int32))] [(.int (0 : Int32)), (.ref w0), (.ref v0)])) _
    refine X3.iaload hx (j := (0 : Int32)) (v := (.int q0)) (by rw [e3]; exact Arq4.1) (State.isArrayOf_alike hZ.alike Arq4.2.1) Arq4.2.2 (inb_of Sq4 ⟨by decide, by decide⟩) (Has.at Hq4 (inb_of Sq4 ⟨by decide, by decide⟩) rfl) (g := (mkF m 19 #[.val (.ref o0), .val (.int (0 : Int32))] [(.int (0 : Int32)), (.ref w0), (.ref v0)])) rfl rfl (hb hby d3_19) _ ?_
    show Steps p.tables e below (T3.setTop (mkF m 20 #[.val (.ref o0), .val (.int (0 : Int32))] [(.int q0), (.ref v0)])) _
    refine XS.dconst0 X3.here hx rfl (hb hby d3_20) (v := (0 : UInt64)) rfl ?_
    show Steps p.tables e below (T3.setTop (mkF m 21 #[.val (.ref o0), .val (.int (0 : Int32))] [(.double (0 : UInt64)), (.int q0), (.ref v0)])) _
    refine st6 _ ?_
    show Steps p.tables e below (T6.setTop (mkF m 22 #[.val (.ref o0), .val (.int (0 : Int32))] [])) _
    refine XS.aloadN X6.here hx rfl (hb hby d3_22) rfl rfl ?_
    show Steps p.tables e below (T6.setTop (mkF m 23 #[.val (.ref o0), .val (.int (0 : Int32))] [(.ref o0)])) _
    refine st15 _ ?_
    show Steps p.tables e below (T15.setTop (mkF m 26 #[.val (.ref o0), .val (.int (0 : Int32))] [(.ref l0)])) _
    refine XS.aloadN X15.here hx rfl (hb hby d3_26) rfl rfl ?_
    show Steps p.tables e below (T15.setTop (mkF m 27 #[.val (.ref o0), .val (.int (0 : Int32))] [(.ref o0), (.ref l0)])) _
    refine st16 _ ?_
    show Steps p.tables e below (T16.setTop (mkF m 30 #[.val (.ref o0), .val (.int (0 : Int32))] [(.ref w0), (.ref l0)])) _
    refine XS.iloadN X16.here hx rfl (hb hby d3_30) rfl ?_
    show Steps p.tables e below (T16.setTop (mkF m 31 #[.val (.ref o0), .val (.int (0 : Int32))] [(.int (0 : Int32)), (.ref w0), (.ref l0)])) _
    refine X16.iaload hx (j := (0 : Int32)) (v := (.int q0)) (by rw [e16]; exact Arq17.1) (State.isArrayOf_alike hZ.alike Arq17.2.1) Arq17.2.2 (inb_of Sq17 ⟨by decide, by decide⟩) (Has.at Hq17 (inb_of Sq17 ⟨by decide, by decide⟩) rfl) (g := (mkF m 31 #[.val (.ref o0), .val (.int (0 : Int32))] [(.int (0 : Int32)), (.ref w0), (.ref l0)])) rfl rfl (hb hby d3_31) _ ?_
    show Steps p.tables e below (T16.setTop (mkF m 32 #[.val (.ref o0), .val (.int (0 : Int32))] [(.int q0), (.ref l0)])) _
    refine XS.iconst X16.here hx rfl (hb hby d3_32) ?_
    show Steps p.tables e below (T16.setTop (mkF m 33 #[.val (.ref o0), .val (.int (0 : Int32))] [(.int (0 : Int32)), (.int q0), (.ref l0)])) _
    refine st19 _ ?_
    show Steps p.tables e below (T19.setTop (mkF m 34 #[.val (.ref o0), .val (.int (0 : Int32))] [])) _
    refine XS.iinc X19.here hx rfl (hb hby d3_34) rfl (l' := #[.val (.ref o0), .val (.int ((0 : Int32) + (1 : Int32)))]) rfl ?_
    show Steps p.tables e below (T19.setTop (mkF m 37 #[.val (.ref o0), .val (.int ((0 : Int32) + (1 : Int32)))] [])) _
    rw [show ((0 : Int32) + (1 : Int32)) = (1 : Int32) by decide]
    show Steps p.tables e below (T19.setTop (mkF m 37 #[.val (.ref o0), .val (.int (1 : Int32))] [])) _
    refine XS.goto X19.here hx rfl (pc0 := 37) (pc' := 2) rfl (hb hby d3_37) (by decide) (by decide) ?_
    show Steps p.tables e below (T19.setTop (mkF m 2 #[.val (.ref o0), .val (.int (1 : Int32))] [])) _
    refine XS.iloadN X19.here hx rfl (hb hby d3_2) rfl ?_
    show Steps p.tables e below (T19.setTop (mkF m 3 #[.val (.ref o0), .val (.int (1 : Int32))] [(.int (1 : Int32))])) _
    refine XS.aloadN X19.here hx rfl (hb hby d3_3) rfl rfl ?_
    show Steps p.tables e below (T19.setTop (mkF m 4 #[.val (.ref o0), .val (.int (1 : Int32))] [(.ref o0), (.int (1 : Int32))])) _
    refine st28 _ ?_
    show Steps p.tables e below (T28.setTop (mkF m 7 #[.val (.ref o0), .val (.int (1 : Int32))] [(.int (2 : Int32)), (.int (1 : Int32))])) _
    refine XS.icmpNo X28.here hx rfl (hb hby d3_7) rfl (tlt (by decide : (1 : Int32) < (2 : Int32))).2.1 ?_
    show Steps p.tables e below (T28.setTop (mkF m 10 #[.val (.ref o0), .val (.int (1 : Int32))] [])) _
    refine XS.aloadN X28.here hx rfl (hb hby d3_10) rfl rfl ?_
    show Steps p.tables e below (T28.setTop (mkF m 11 #[.val (.ref o0), .val (.int (1 : Int32))] [(.ref o0)])) _
    refine st29 _ ?_
    show Steps p.tables e below (T29.setTop (mkF m 14 #[.val (.ref o0), .val (.int (1 : Int32))] [(.ref v0)])) _
    refine XS.aloadN X29.here hx rfl (hb hby d3_14) rfl rfl ?_
    show Steps p.tables e below (T29.setTop (mkF m 15 #[.val (.ref o0), .val (.int (1 : Int32))] [(.ref o0), (.ref v0)])) _
    refine st30 _ ?_
    show Steps p.tables e below (T30.setTop (mkF m 18 #[.val (.ref o0), .val (.int (1 : Int32))] [(.ref w0), (.ref v0)])) _
    refine XS.iloadN X30.here hx rfl (hb hby d3_18) rfl ?_
    show Steps p.tables e below (T30.setTop (mkF m 19 #[.val (.ref o0), .val (.int (1 : Int32))] [(.int (1 : Int32)), (.ref w0), (.ref v0)])) _
    refine X30.iaload hx (j := (1 : Int32)) (v := (.int q1)) (by rw [e30]; exact Arq31.1) (State.isArrayOf_alike hZ.alike Arq31.2.1) Arq31.2.2 (inb_of Sq31 ⟨by decide, by decide⟩) (Has.at Hq31 (inb_of Sq31 ⟨by decide, by decide⟩) rfl) (g := (mkF m 19 #[.val (.ref o0), .val (.int (1 : Int32))] [(.int (1 : Int32)), (.ref w0), (.ref v0)])) rfl rfl (hb hby d3_19) _ ?_
    show Steps p.tables e below (T30.setTop (mkF m 20 #[.val (.ref o0), .val (.int (1 : Int32))] [(.int q1), (.ref v0)])) _
    refine XS.dconst0 X30.here hx rfl (hb hby d3_20) (v := (0 : UInt64)) rfl ?_
    show Steps p.tables e below (T30.setTop (mkF m 21 #[.val (.ref o0), .val (.int (1 : Int32))] [(.double (0 : UInt64)), (.int q1), (.ref v0)])) _
    refine st33 _ ?_
    show Steps p.tables e below (T33.setTop (mkF m 22 #[.val (.ref o0), .val (.int (1 : Int32))] [])) _
    refine XS.aloadN X33.here hx rfl (hb hby d3_22) rfl rfl ?_
    show Steps p.tables e below (T33.setTop (mkF m 23 #[.val (.ref o0), .val (.int (1 : Int32))] [(.ref o0)])) _
    refine st42 _ ?_
    show Steps p.tables e below (T42.setTop (mkF m 26 #[.val (.ref o0), .val (.int (1 : Int32))] [(.ref l0)])) _
    refine XS.aloadN X42.here hx rfl (hb hby d3_26) rfl rfl ?_
    show Steps p.tables e below (T42.setTop (mkF m 27 #[.val (.ref o0), .val (.int (1 : Int32))] [(.ref o0), (.ref l0)])) _
    refine st43 _ ?_
    show Steps p.tables e below (T43.setTop (mkF m 30 #[.val (.ref o0), .val (.int (1 : Int32))] [(.ref w0), (.ref l0)])) _
    refine XS.iloadN X43.here hx rfl (hb hby d3_30) rfl ?_
    show Steps p.tables e below (T43.setTop (mkF m 31 #[.val (.ref o0), .val (.int (1 : Int32))] [(.int (1 : Int32)), (.ref w0), (.ref l0)])) _
    refine X43.iaload hx (j := (1 : Int32)) (v := (.int q1)) (by rw [e43]; exact Arq44.1) (State.isArrayOf_alike hZ.alike Arq44.2.1) Arq44.2.2 (inb_of Sq44 ⟨by decide, by decide⟩) (Has.at Hq44 (inb_of Sq44 ⟨by decide, by decide⟩) rfl) (g := (mkF m 31 #[.val (.ref o0), .val (.int (1 : Int32))] [(.int (1 : Int32)), (.ref w0), (.ref l0)])) rfl rfl (hb hby d3_31) _ ?_
    show Steps p.tables e below (T43.setTop (mkF m 32 #[.val (.ref o0), .val (.int (1 : Int32))] [(.int q1), (.ref l0)])) _
    refine XS.iconst X43.here hx rfl (hb hby d3_32) ?_
    show Steps p.tables e below (T43.setTop (mkF m 33 #[.val (.ref o0), .val (.int (1 : Int32))] [(.int (0 : Int32)), (.int q1), (.ref l0)])) _
    refine st46 _ ?_
    show Steps p.tables e below (T46.setTop (mkF m 34 #[.val (.ref o0), .val (.int (1 : Int32))] [])) _
    refine XS.iinc X46.here hx rfl (hb hby d3_34) rfl (l' := #[.val (.ref o0), .val (.int ((1 : Int32) + (1 : Int32)))]) rfl ?_
    show Steps p.tables e below (T46.setTop (mkF m 37 #[.val (.ref o0), .val (.int ((1 : Int32) + (1 : Int32)))] [])) _
    rw [show ((1 : Int32) + (1 : Int32)) = (2 : Int32) by decide]
    show Steps p.tables e below (T46.setTop (mkF m 37 #[.val (.ref o0), .val (.int (2 : Int32))] [])) _
    refine XS.goto X46.here hx rfl (pc0 := 37) (pc' := 2) rfl (hb hby d3_37) (by decide) (by decide) ?_
    show Steps p.tables e below (T46.setTop (mkF m 2 #[.val (.ref o0), .val (.int (2 : Int32))] [])) _
    refine XS.iloadN X46.here hx rfl (hb hby d3_2) rfl ?_
    show Steps p.tables e below (T46.setTop (mkF m 3 #[.val (.ref o0), .val (.int (2 : Int32))] [(.int (2 : Int32))])) _
    refine XS.aloadN X46.here hx rfl (hb hby d3_3) rfl rfl ?_
    show Steps p.tables e below (T46.setTop (mkF m 4 #[.val (.ref o0), .val (.int (2 : Int32))] [(.ref o0), (.int (2 : Int32))])) _
    refine st55 _ ?_
    show Steps p.tables e below (T55.setTop (mkF m 7 #[.val (.ref o0), .val (.int (2 : Int32))] [(.int (2 : Int32)), (.int (2 : Int32))])) _
    refine XS.icmpYes X55.here hx rfl (pc0 := 7) (pc' := 40) rfl (hb hby d3_7) rfl (flt (by decide : ¬ ((2 : Int32) < (2 : Int32)))).2.1 (by decide) (by decide) ?_
    show Steps p.tables e below (T55.setTop (mkF m 40 #[.val (.ref o0), .val (.int (2 : Int32))] [])) _
    refine XS.aloadN X55.here hx rfl (hb hby d3_40) rfl rfl ?_
    show Steps p.tables e below (T55.setTop (mkF m 41 #[.val (.ref o0), .val (.int (2 : Int32))] [(.ref o0)])) _
    refine XS.iconst X55.here hx rfl (hb hby d3_41) ?_
    show Steps p.tables e below (T55.setTop (mkF m 42 #[.val (.ref o0), .val (.int (2 : Int32))] [(.int (0 : Int32)), (.ref o0)])) _
    refine st56 _ ?_
    show Steps p.tables e below (T56.setTop (mkF m 45 #[.val (.ref o0), .val (.int (2 : Int32))] [])) _
    exact X56.returnOut hx Bd.returns (hb hby d3_45) hr
  · show Q_clr2 Z o0 v0 l0 w0 kv kl kw q0 q1 q2 q3 vs ls vs1 ls1 h0 n0 _ T56.heap _
    rw [e56]
    exact ⟨rfl, N56, K56, f60, f57, f58, f59, f64, f65, f66, f63⟩
def Q_clr3 (Z : State) (o0 : Addr) (v0 : Addr) (l0 : Addr) (w0 : Addr) (kv : ClassId) (kl : ClassId) (kw : ClassId) (q0 : Int32) (q1 : Int32) (q2 : Int32) (q3 : Int32) (vs : List Value) (ls : List Value) (vs1 : List Value) (ls1 : List Value) (h0 : Heap) (n0 : Nat) (v : Option Value) (h : Heap) (L : List Loc) : Prop := v = none ∧ Fr n0 L ∧ Keep h0 h [v0, l0, o0] ∧ Exa Z h o0 "com/example/leeway/leeway/lp/SparseColumn" ∧ Fld Z h o0 "com/example/leeway/leeway/lp/SparseColumn" "values" "[D" (.ref v0) ∧ Fld Z h o0 "com/example/leeway/leeway/lp/SparseColumn" "listed" "[Z" (.ref l0) ∧ Fld Z h o0 "com/example/leeway/leeway/lp/SparseColumn" "rows" "[I" (.ref w0) ∧ Fld Z h o0 "com/example/leeway/leeway/lp/SparseColumn" "count" "I" (.int (0 : Int32)) ∧ Arv Z h v0 kv .double (4 : Int32) vs1 (.double (0 : UInt64)) ∧ Arv Z h l0 kl .boolean (4 : Int32) ls1 (.int (0 : Int32)) ∧ Arv Z h w0 kw .int (4 : Int32) [(.int q0), (.int q1), (.int q2), (.int q3)] (.int (0 : Int32))
set_option maxRecDepth 65536 in
set_option maxHeartbeats 40000000 in
theorem clr3 (l : Launch) (Z : State) (a0 : Array Value) (hw : ∀ d ∈ tables_1, d.before a0 Z = true) (ws : List Jvm.Cond) (o0 : Addr) (v0 : Addr) (l0 : Addr) (w0 : Addr) (kv : ClassId) (kl : ClassId) (kw : ClassId) (q0 : Int32) (q1 : Int32) (q2 : Int32) (q3 : Int32) (vs : List Value) (ls : List Value) (vs1 : List Value) (ls1 : List Value) (h0 : Heap) (n0 : Nat) (Z0 : n0 ≤ h0.size) (F_values_o0 : Fld Z h0 o0 "com/example/leeway/leeway/lp/SparseColumn" "values" "[D" (.ref v0)) (F_listed_o0 : Fld Z h0 o0 "com/example/leeway/leeway/lp/SparseColumn" "listed" "[Z" (.ref l0)) (F_rows_o0 : Fld Z h0 o0 "com/example/leeway/leeway/lp/SparseColumn" "rows" "[I" (.ref w0)) (F_count_o0 : Fld Z h0 o0 "com/example/leeway/leeway/lp/SparseColumn" "count" "I" (.int (3 : Int32))) (E_o0 : Exa Z h0 o0 "com/example/leeway/leeway/lp/SparseColumn") (V_v0 : Arv Z h0 v0 kv .double (4 : Int32) vs (.double (0 : UInt64))) (V_l0 : Arv Z h0 l0 kl .boolean (4 : Int32) ls (.int (0 : Int32))) (V_w0 : Arv Z h0 w0 kw .int (4 : Int32) [(.int q0), (.int q1), (.int q2), (.int q3)] (.int (0 : Int32))) (g_o0 : n0 ≤ o0) (g_v0 : n0 ≤ v0) (g_l0 : n0 ≤ l0) (g_w0 : n0 ≤ w0) (ne_o0_v0 : o0 ≠ v0) (ne_o0_l0 : o0 ≠ l0) (ne_o0_w0 : o0 ≠ w0) (ne_v0_l0 : v0 ≠ l0) (ne_v0_w0 : v0 ≠ w0) (ne_l0_w0 : l0 ≠ w0) (hx0 : ¬ q0 < 0 ∧ q0 < (4 : Int32)) (hv0 : q0.toNatClampNeg < vs.length) (hl0 : q0.toNatClampNeg < ls.length) (hx1 : ¬ q1 < 0 ∧ q1 < (4 : Int32)) (hv1 : q1.toNatClampNeg < vs.length) (hl1 : q1.toNatClampNeg < ls.length) (hx2 : ¬ q2 < 0 ∧ q2 < (4 : Int32)) (hv2 : q2.toNatClampNeg < vs.length) (hl2 : q2.toNatClampNeg < ls.length) (hvs : (((vs.set q0.toNatClampNeg (.double (0 : UInt64))).set q1.toNatClampNeg (.double (0 : UInt64))).set q2.toNatClampNeg (.double (0 : UInt64))) = vs1) (hls : (((ls.set q0.toNatClampNeg (.int (0 : Int32))).set q1.toNatClampNeg (.int (0 : Int32))).set q2.toNatClampNeg (.int (0 : Int32))) = ls1) :
    MetFree l (⟨"com/example/leeway/leeway/lp/SparseColumn", "clear", "()V"⟩ : MethodName) (head1 (Jvm.Cond.code (⟨"com/example/leeway/leeway/lp/SparseColumn", "clear", "()V"⟩ : MethodName) prog_87_method_5_code 2 none :: ws) ({ frames := 0, cells := 0, slots := 0, locals := 0 } : Room)) (fun a U => a = #[(.ref o0)] ∧ Z.Warmed39 U.vm ∧ U.heap = h0) (fun _ _ _ _ _ => True) (fun _ U o U' => ∃ v L, o = .returned v ∧ Q_clr3 Z o0 v0 l0 w0 kv kl kw q0 q1 q2 q3 vs ls vs1 ls1 h0 n0 v U'.heap L ∧ FrameEnd U o U' L ({ frames := 0, cells := 0, slots := 0, locals := 0 } : Room).cells ({ frames := 0, cells := 0, slots := 0, locals := 0 } : Room).slots) := by
  refine MetFree.of_bodySF (plainFor_of_name pn_com_example_leeway_leeway_lp_SparseColumn) hisR ?_
  intro p e s m args below meth c s₁ Bd hml0 hP hK
  obtain ⟨rfl, hZ, hh⟩ := hP
  have hx := Bd.exec
  have hby := Bd.bytes
  have hml : c.maxLocals = 2 := hml0
  have hown : s.vm.findClass "com/example/leeway/leeway/lp/SparseColumn" = some m.cls := findClass_of_methodNamed Bd.named
  have hnm := (name_of_methodNamed Bd.named Bd.method).1
  have X0 : Stand p l e ({ frames := 0, cells := 0, slots := 0, locals := 0 } : Room) s m #[(.ref o0)] below meth c s₁ [] 0 0 := Stand.of_body Bd
  have e0 : s₁.heap = h0 := by rw [← hh, Bd.state]; rfl
  have N0 := Fr.nil n0
  have pre0 : ∀ t, Steps p.tables e below (s₁.setTop (mkF m 0 #[.val (.ref o0), .unset] [])) t → Steps p.tables e below (s₁.setTop (entryFrame m #[(.ref o0)] 2)) t := fun t k => castTop (ef_3_R m o0) k
  obtain ⟨T1, X1, e1, st1⟩ := getF X0 hx hZ hown (host := "") (Or.inl (hw _ (List.mem_of_getElem? (i := 23) rfl))) Via.refl e0 F_count_o0 (g := (mkF m 4 #[.val (.ref o0), .val (.int (0 : Int32))] [(.ref o0), (.int (0 : Int32))])) rfl rfl (hb hby d3_4)
  obtain ⟨T2, X2, e2, st2⟩ := getF X1 hx hZ hown (host := "") (Or.inl (hw _ (List.mem_of_getElem? (i := 10) rfl))) Via.refl e1 F_values_o0 (g := (mkF m 11 #[.val (.ref o0), .val (.int (0 : Int32))] [(.ref o0)])) rfl rfl (hb hby d3_11)
  obtain ⟨T3, X3, e3, st3⟩ := getF X2 hx hZ hown (host := "") (Or.inl (hw _ (List.mem_of_getElem? (i := 16) rfl))) Via.refl e2 F_rows_o0 (g := (mkF m 15 #[.val (.ref o0), .val (.int (0 : Int32))] [(.ref o0), (.ref v0)])) rfl rfl (hb hby d3_15)
  obtain ⟨cq4, Arq4, -, Sq4, -, Hq4, -⟩ := id V_w0
  obtain ⟨cq5, Arq5, qq5, Sq5, Nq5, Hq5, Gq5⟩ := id V_v0
  obtain ⟨T6, h6, X6, e6, W6, st6⟩ := stD X3 hx hZ e3 Arq5 (j := q0) (inb_of Sq5 hx0) (g := (mkF m 21 #[.val (.ref o0), .val (.int (0 : Int32))] [(.double (0 : UInt64)), (.int q0), (.ref v0)])) rfl rfl (hb hby d3_21)
  have f7 := F_values_o0.other W6 (Or.inl ne_o0_v0)
  have f8 := F_listed_o0.other W6 (Or.inl ne_o0_v0)
  have f9 := F_rows_o0.other W6 (Or.inl ne_o0_v0)
  have f10 := F_count_o0.other W6 (Or.inl ne_o0_v0)
  have f11 := E_o0.wr W6
  have f12 := V_l0.other W6 (Ne.symm ne_v0_l0)
  have f13 := V_w0.other W6 (Ne.symm ne_v0_w0)
  have K6 : Keep h0 h6 [v0, l0, o0] := (Keep.refl h0 [v0, l0, o0]).wr W6 (Or.inl (List.mem_of_getElem? (i := 0) rfl))
  have Zs6 := Nat.le_trans Z0 (Keep.of_wr W6).1
  have N6 := Fr.snoc X6 N0 g_v0
  have f14 : Arv Z h6 v0 kv .double (4 : Int32) (vs.set q0.toNatClampNeg (.double (0 : UInt64))) (.double (0 : UInt64)) := Arv.set Arq5 qq5 Sq5 Nq5 Hq5 Gq5 rfl W6 q0.toNatClampNeg rfl (by (try simp only [List.length_set]); exact hv0)
  obtain ⟨T15, X15, e15, st15⟩ := getF X6 hx hZ hown (host := "") (Or.inl (hw _ (List.mem_of_getElem? (i := 13) rfl))) Via.refl e6 f8 (g := (mkF m 23 #[.val (.ref o0), .val (.int (0 : Int32))] [(.ref o0)])) rfl rfl (hb hby d3_23)
  obtain ⟨T16, X16, e16, st16⟩ := getF X15 hx hZ hown (host := "") (Or.inl (hw _ (List.mem_of_getElem? (i := 16) rfl))) Via.refl e15 f9 (g := (mkF m 27 #[.val (.ref o0), .val (.int (0 : Int32))] [(.ref o0), (.ref l0)])) rfl rfl (hb hby d3_27)
  obtain ⟨cq17, Arq17, -, Sq17, -, Hq17, -⟩ := id f13
  obtain ⟨cq18, Arq18, qq18, Sq18, Nq18, Hq18, Gq18⟩ := id f12
  obtain ⟨T19, h19, X19, e19, W19, st19⟩ := stZ X16 hx hZ e16 Arq18 (j := q0) (inb_of Sq18 hx0) (g := (mkF m 33 #[.val (.ref o0), .val (.int (0 : Int32))] [(.int (0 : Int32)), (.int q0), (.ref l0)])) rfl rfl (hb hby d3_33)
  have f20 := f7.other W19 (Or.inl ne_o0_l0)
  have f21 := f8.other W19 (Or.inl ne_o0_l0)
  have f22 := f9.other W19 (Or.inl ne_o0_l0)
  have f23 := f10.other W19 (Or.inl ne_o0_l0)
  have f24 := f11.wr W19
  have f25 := f14.other W19 ne_v0_l0
  have f26 := f13.other W19 (Ne.symm ne_l0_w0)
  have K19 : Keep h0 h19 [v0, l0, o0] := K6.wr W19 (Or.inl (List.mem_of_getElem? (i := 1) rfl))
  have Zs19 := Nat.le_trans Zs6 (Keep.of_wr W19).1
  have N19 := Fr.snoc X19 N6 g_l0
  have f27 : Arv Z h19 l0 kl .boolean (4 : Int32) (ls.set q0.toNatClampNeg (.int (0 : Int32))) (.int (0 : Int32)) := Arv.set Arq18 qq18 Sq18 Nq18 Hq18 Gq18 (by decide) W19 q0.toNatClampNeg rfl (by (try simp only [List.length_set]); exact hl0)
  obtain ⟨T28, X28, e28, st28⟩ := getF X19 hx hZ hown (host := "") (Or.inl (hw _ (List.mem_of_getElem? (i := 23) rfl))) Via.refl e19 f23 (g := (mkF m 4 #[.val (.ref o0), .val (.int (1 : Int32))] [(.ref o0), (.int (1 : Int32))])) rfl rfl (hb hby d3_4)
  obtain ⟨T29, X29, e29, st29⟩ := getF X28 hx hZ hown (host := "") (Or.inl (hw _ (List.mem_of_getElem? (i := 10) rfl))) Via.refl e28 f20 (g := (mkF m 11 #[.val (.ref o0), .val (.int (1 : Int32))] [(.ref o0)])) rfl rfl (hb hby d3_11)
  obtain ⟨T30, X30, e30, st30⟩ := getF X29 hx hZ hown (host := "") (Or.inl (hw _ (List.mem_of_getElem? (i := 16) rfl))) Via.refl e29 f22 (g := (mkF m 15 #[.val (.ref o0), .val (.int (1 : Int32))] [(.ref o0), (.ref v0)])) rfl rfl (hb hby d3_15)
  obtain ⟨cq31, Arq31, -, Sq31, -, Hq31, -⟩ := id f26
  obtain ⟨cq32, Arq32, qq32, Sq32, Nq32, Hq32, Gq32⟩ := id f25
  obtain ⟨T33, h33, X33, e33, W33, st33⟩ := stD X30 hx hZ e30 Arq32 (j := q1) (inb_of Sq32 hx1) (g := (mkF m 21 #[.val (.ref o0), .val (.int (1 : Int32))] [(.double (0 : UInt64)), (.int q1), (.ref v0)])) rfl rfl (hb hby d3_21)
  have f34 := f20.other W33 (Or.inl ne_o0_v0)
  have f35 := f21.other W33 (Or.inl ne_o0_v0)
  have f36 := f22.other W33 (Or.inl ne_o0_v0)
  have f37 := f23.other W33 (Or.inl ne_o0_v0)
  have f38 := f24.wr W33
  have f39 := f27.other W33 (Ne.symm ne_v0_l0)
  have f40 := f26.other W33 (Ne.symm ne_v0_w0)
  have K33 : Keep h0 h33 [v0, l0, o0] := K19.wr W33 (Or.inl (List.mem_of_getElem? (i := 0) rfl))
  have Zs33 := Nat.le_trans Zs19 (Keep.of_wr W33).1
  have N33 := Fr.snoc X33 N19 g_v0
  have f41 : Arv Z h33 v0 kv .double (4 : Int32) ((vs.set q0.toNatClampNeg (.double (0 : UInt64))).set q1.toNatClampNeg (.double (0 : UInt64))) (.double (0 : UInt64)) := Arv.set Arq32 qq32 Sq32 Nq32 Hq32 Gq32 rfl W33 q1.toNatClampNeg rfl (by (try simp only [List.length_set]); exact hv1)
  obtain ⟨T42, X42, e42, st42⟩ := getF X33 hx hZ hown (host := "") (Or.inl (hw _ (List.mem_of_getElem? (i := 13) rfl))) Via.refl e33 f35 (g := (mkF m 23 #[.val (.ref o0), .val (.int (1 : Int32))] [(.ref o0)])) rfl rfl (hb hby d3_23)
  obtain ⟨T43, X43, e43, st43⟩ := getF X42 hx hZ hown (host := "") (Or.inl (hw _ (List.mem_of_getElem? (i := 16) rfl))) Via.refl e42 f36 (g := (mkF m 27 #[.val (.ref o0), .val (.int (1 : Int32))] [(.ref o0), (.ref l0)])) rfl rfl (hb hby d3_27)
  obtain ⟨cq44, Arq44, -, Sq44, -, Hq44, -⟩ := id f40
  obtain ⟨cq45, Arq45, qq45, Sq45, Nq45, Hq45, Gq45⟩ := id f39
  obtain ⟨T46, h46, X46, e46, W46, st46⟩ := stZ X43 hx hZ e43 Arq45 (j := q1) (inb_of Sq45 hx1) (g := (mkF m 33 #[.val (.ref o0), .val (.int (1 : Int32))] [(.int (0 : Int32)), (.int q1), (.ref l0)])) rfl rfl (hb hby d3_33)
  have f47 := f34.other W46 (Or.inl ne_o0_l0)
  have f48 := f35.other W46 (Or.inl ne_o0_l0)
  have f49 := f36.other W46 (Or.inl ne_o0_l0)
  have f50 := f37.other W46 (Or.inl ne_o0_l0)
  have f51 := f38.wr W46
  have f52 := f41.other W46 ne_v0_l0
  have f53 := f40.other W46 (Ne.symm ne_l0_w0)
  have K46 : Keep h0 h46 [v0, l0, o0] := K33.wr W46 (Or.inl (List.mem_of_getElem? (i := 1) rfl))
  have Zs46 := Nat.le_trans Zs33 (Keep.of_wr W46).1
  have N46 := Fr.snoc X46 N33 g_l0
  have f54 : Arv Z h46 l0 kl .boolean (4 : Int32) ((ls.set q0.toNatClampNeg (.int (0 : Int32))).set q1.toNatClampNeg (.int (0 : Int32))) (.int (0 : Int32)) := Arv.set Arq45 qq45 Sq45 Nq45 Hq45 Gq45 (by decide) W46 q1.toNatClampNeg rfl (by (try simp only [List.length_set]); exact hl1)
  obtain ⟨T55, X55, e55, st55⟩ := getF X46 hx hZ hown (host := "") (Or.inl (hw _ (List.mem_of_getElem? (i := 23) rfl))) Via.refl e46 f50 (g := (mkF m 4 #[.val (.ref o0), .val (.int (2 : Int32))] [(.ref o0), (.int (2 : Int32))])) rfl rfl (hb hby d3_4)
  obtain ⟨T56, X56, e56, st56⟩ := getF X55 hx hZ hown (host := "") (Or.inl (hw _ (List.mem_of_getElem? (i := 10) rfl))) Via.refl e55 f47 (g := (mkF m 11 #[.val (.ref o0), .val (.int (2 : Int32))] [(.ref o0)])) rfl rfl (hb hby d3_11)
  obtain ⟨T57, X57, e57, st57⟩ := getF X56 hx hZ hown (host := "") (Or.inl (hw _ (List.mem_of_getElem? (i := 16) rfl))) Via.refl e56 f49 (g := (mkF m 15 #[.val (.ref o0), .val (.int (2 : Int32))] [(.ref o0), (.ref v0)])) rfl rfl (hb hby d3_15)
  obtain ⟨cq58, Arq58, -, Sq58, -, Hq58, -⟩ := id f53
  obtain ⟨cq59, Arq59, qq59, Sq59, Nq59, Hq59, Gq59⟩ := id f52
  obtain ⟨T60, h60, X60, e60, W60, st60⟩ := stD X57 hx hZ e57 Arq59 (j := q2) (inb_of Sq59 hx2) (g := (mkF m 21 #[.val (.ref o0), .val (.int (2 : Int32))] [(.double (0 : UInt64)), (.int q2), (.ref v0)])) rfl rfl (hb hby d3_21)
  have f61 := f47.other W60 (Or.inl ne_o0_v0)
  have f62 := f48.other W60 (Or.inl ne_o0_v0)
  have f63 := f49.other W60 (Or.inl ne_o0_v0)
  have f64 := f50.other W60 (Or.inl ne_o0_v0)
  have f65 := f51.wr W60
  have f66 := f54.other W60 (Ne.symm ne_v0_l0)
  have f67 := f53.other W60 (Ne.symm ne_v0_w0)
  have K60 : Keep h0 h60 [v0, l0, o0] := K46.wr W60 (Or.inl (List.mem_of_getElem? (i := 0) rfl))
  have Zs60 := Nat.le_trans Zs46 (Keep.of_wr W60).1
  have N60 := Fr.snoc X60 N46 g_v0
  have f68 : Arv Z h60 v0 kv .double (4 : Int32) (((vs.set q0.toNatClampNeg (.double (0 : UInt64))).set q1.toNatClampNeg (.double (0 : UInt64))).set q2.toNatClampNeg (.double (0 : UInt64))) (.double (0 : UInt64)) := Arv.set Arq59 qq59 Sq59 Nq59 Hq59 Gq59 rfl W60 q2.toNatClampNeg rfl (by (try simp only [List.length_set]); exact hv2)
  obtain ⟨T69, X69, e69, st69⟩ := getF X60 hx hZ hown (host := "") (Or.inl (hw _ (List.mem_of_getElem? (i := 13) rfl))) Via.refl e60 f62 (g := (mkF m 23 #[.val (.ref o0), .val (.int (2 : Int32))] [(.ref o0)])) rfl rfl (hb hby d3_23)
  obtain ⟨T70, X70, e70, st70⟩ := getF X69 hx hZ hown (host := "") (Or.inl (hw _ (List.mem_of_getElem? (i := 16) rfl))) Via.refl e69 f63 (g := (mkF m 27 #[.val (.ref o0), .val (.int (2 : Int32))] [(.ref o0), (.ref l0)])) rfl rfl (hb hby d3_27)
  obtain ⟨cq71, Arq71, -, Sq71, -, Hq71, -⟩ := id f67
  obtain ⟨cq72, Arq72, qq72, Sq72, Nq72, Hq72, Gq72⟩ := id f66
  obtain ⟨T73, h73, X73, e73, W73, st73⟩ := stZ X70 hx hZ e70 Arq72 (j := q2) (inb_of Sq72 hx2) (g := (mkF m 33 #[.val (.ref o0), .val (.int (2 : Int32))] [(.int (0 : Int32)), (.int q2), (.ref l0)])) rfl rfl (hb hby d3_33)
  have f74 := f61.other W73 (Or.inl ne_o0_l0)
  have f75 := f62.other W73 (Or.inl ne_o0_l0)
  have f76 := f63.other W73 (Or.inl ne_o0_l0)
  have f77 := f64.other W73 (Or.inl ne_o0_l0)
  have f78 := f65.wr W73
  have f79 := f68.other W73 ne_v0_l0
  have f80 := f67.other W73 (Ne.symm ne_l0_w0)
  have K73 : Keep h0 h73 [v0, l0, o0] := K60.wr W73 (Or.inl (List.mem_of_getElem? (i := 1) rfl))
  have Zs73 := Nat.le_trans Zs60 (Keep.of_wr W73).1
  have N73 := Fr.snoc X73 N60 g_l0
  have f81 : Arv Z h73 l0 kl .boolean (4 : Int32) (((ls.set q0.toNatClampNeg (.int (0 : Int32))).set q1.toNatClampNeg (.int (0 : Int32))).set q2.toNatClampNeg (.int (0 : Int32))) (.int (0 : Int32)) := Arv.set Arq72 qq72 Sq72 Nq72 Hq72 Gq72 (by decide) W73 q2.toNatClampNeg rfl (by (try simp only [List.length_set]); exact hl2)
  obtain ⟨T82, X82, e82, st82⟩ := getF X73 hx hZ hown (host := "") (Or.inl (hw _ (List.mem_of_getElem? (i := 23) rfl))) Via.refl e73 f77 (g := (mkF m 4 #[.val (.ref o0), .val (.int (3 : Int32))] [(.ref o0), (.int (3 : Int32))])) rfl rfl (hb hby d3_4)
  obtain ⟨T83, h83, X83, e83, W83, st83⟩ := putF X82 hx hZ hown (host := "") (Or.inl (hw _ (List.mem_of_getElem? (i := 23) rfl))) Via.refl e82 f77 f78 (Or.inl (hw _ (List.mem_of_getElem? (i := 24) rfl))) (hw _ (List.mem_of_getElem? (i := 1) rfl)) (ty := .int) (by decide) rfl rfl (g := (mkF m 42 #[.val (.ref o0), .val (.int (3 : Int32))] [(.int (0 : Int32)), (.ref o0)])) rfl rfl (hb hby d3_42)
  have f84 := f74.other W83 (Or.inr (so_SparseColumn_values_count hw))
  have f85 := f75.other W83 (Or.inr (so_SparseColumn_listed_count hw))
  have f86 := f76.other W83 (Or.inr (so_SparseColumn_rows_count hw))
  have f87 := f78.wr W83
  have f88 := f79.other W83 (Ne.symm ne_o0_v0)
  have f89 := f81.other W83 (Ne.symm ne_o0_l0)
  have f90 := f80.other W83 (Ne.symm ne_o0_w0)
  have K83 : Keep h0 h83 [v0, l0, o0] := K73.wr W83 (Or.inl (List.mem_of_getElem? (i := 2) rfl))
  have Zs83 := Nat.le_trans Zs73 (Keep.of_wr W83).1
  have N83 := Fr.snoc X83 N73 g_o0
  have f91 : Fld Z h83 o0 "com/example/leeway/leeway/lp/SparseColumn" "count" "I" (.int (0 : Int32)) := f77.same W83
  have f92 : Arv Z h83 v0 kv .double (4 : Int32) vs1 (.double (0 : UInt64)) := (hvs : (((vs.set q0.toNatClampNeg (.double (0 : UInt64))).set q1.toNatClampNeg (.double (0 : UInt64))).set q2.toNatClampNeg (.double (0 : UInt64))) = vs1) ▸ f88
  have f93 : Arv Z h83 l0 kl .boolean (4 : Int32) ls1 (.int (0 : Int32)) := (hls : (((ls.set q0.toNatClampNeg (.int (0 : Int32))).set q1.toNatClampNeg (.int (0 : Int32))).set q2.toNatClampNeg (.int (0 : Int32))) = ls1) ▸ f89
  obtain ⟨fs, hr, hrun, hended, hW, hsame⟩ := X83.leave (v := none) (fun _ => rfl)
  refine ⟨_, _, pre0 _ ?_, hrun, hended, _, _, rfl, ?_, ⟨_, rfl⟩, hW, hsame.mono (by decide) (by decide)⟩
  · show Steps p.tables e below (s₁.setTop (mkF m 0 #[.val (.ref o0), .unset] [])) _
    refine XS.iconst X0.here hx rfl (hb hby d3_0) ?_
    show Steps p.tables e below (s₁.setTop (mkF m 1 #[.val (.ref o0), .unset] [(.int (0 : Int32))])) _
    refine XS.istoreN X0.here hx rfl (hb hby d3_1) rfl (l' := #[.val (.ref o0), .val (.int (0 : Int32))]) rfl ?_
    show Steps p.tables e below (s₁.setTop (mkF m 2 #[.val (.ref o0), .val (.int (0 : Int32))] [])) _
    refine XS.iloadN X0.here hx rfl (hb hby d3_2) rfl ?_
    show Steps p.tables e below (s₁.setTop (mkF m 3 #[.val (.ref o0), .val (.int (0 : Int32))] [(.int (0 : Int32))])) _
    refine XS.aloadN X0.here hx rfl (hb hby d3_3) rfl rfl ?_
    show Steps p.tables e below (s₁.setTop (mkF m 4 #[.val (.ref o0), .val (.int (0 : Int32))] [(.ref o0), (.int (0 : Int32))])) _
    refine st1 _ ?_
    show Steps p.tables e below (T1.setTop (mkF m 7 #[.val (.ref o0), .val (.int (0 : Int32))] [(.int (3 : Int32)), (.int (0 : Int32))])) _
    refine XS.icmpNo X1.here hx rfl (hb hby d3_7) rfl (tlt (by decide : (0 : Int32) < (3 : Int32))).2.1 ?_
    show Steps p.tables e below (T1.setTop (mkF m 10 #[.val (.ref o0), .val (.int (0 : Int32))] [])) _
    refine XS.aloadN X1.here hx rfl (hb hby d3_10) rfl rfl ?_
    show Steps p.tables e below (T1.setTop (mkF m 11 #[.val (.ref o0), .val (.int (0 : Int32))] [(.ref o0)])) _
    refine st2 _ ?_
    show Steps p.tables e below (T2.setTop (mkF m 14 #[.val (.ref o0), .val (.int (0 : Int32))] [(.ref v0)])) _
    refine XS.aloadN X2.here hx rfl (hb hby d3_14) rfl rfl ?_
    show Steps p.tables e below (T2.setTop (mkF m 15 #[.val (.ref o0), .val (.int (0 : Int32))] [(.ref o0), (.ref v0)])) _
    refine st3 _ ?_
    show Steps p.tables e below (T3.setTop (mkF m 18 #[.val (.ref o0), .val (.int (0 : Int32))] [(.ref w0), (.ref v0)])) _
    refine XS.iloadN X3.here hx rfl (hb hby d3_18) rfl ?_
    show Steps p.tables e below (T3.setTop (mkF m 19 #[.val (.ref o0), .val (.int (0 : Int32))] [(.int (0 : Int32)), (.ref w0), (.ref v0)])) _
    refine X3.iaload hx (j := (0 : Int32)) (v := (.int q0)) (by rw [e3]; exact Arq4.1) (State.isArrayOf_alike hZ.alike Arq4.2.1) Arq4.2.2 (inb_of Sq4 ⟨by decide, by decide⟩) (Has.at Hq4 (inb_of Sq4 ⟨by decide, by decide⟩) rfl) (g := (mkF m 19 #[.val (.ref o0), .val (.int (0 : Int32))] [(.int (0 : Int32)), (.ref w0), (.ref v0)])) rfl rfl (hb hby d3_19) _ ?_
    show Steps p.tables e below (T3.setTop (mkF m 20 #[.val (.ref o0), .val (.int (0 : Int32))] [(.int q0), (.ref v0)])) _
    refine XS.dconst0 X3.here hx rfl (hb hby d3_20) (v := (0 : UInt64)) rfl ?_
    show Steps p.tables e below (T3.setTop (mkF m 21 #[.val (.ref o0), .val (.int (0 : Int32))] [(.double (0 : UInt64)), (.int q0), (.ref v0)])) _
    refine st6 _ ?_
    show Steps p.tables e below (T6.setTop (mkF m 22 #[.val (.ref o0), .val (.int (0 : Int32))] [])) _
    refine XS.aloadN X6.here hx rfl (hb hby d3_22) rfl rfl ?_
    show Steps p.tables e below (T6.setTop (mkF m 23 #[.val (.ref o0), .val (.int (0 : Int32))] [(.ref o0)])) _
    refine st15 _ ?_
    show Steps p.tables e below (T15.setTop (mkF m 26 #[.val (.ref o0), .val (.int (0 : Int32))] [(.ref l0)])) _
    refine XS.aloadN X15.here hx rfl (hb hby d3_26) rfl rfl ?_
    show Steps p.tables e below (T15.setTop (mkF m 27 #[.val (.ref o0), .val (.int (0 : Int32))] [(.ref o0), (.ref l0)])) _
    refine st16 _ ?_
    show Steps p.tables e below (T16.setTop (mkF m 30 #[.val (.ref o0), .val (.int (0 : Int32))] [(.ref w0), (.ref l0)])) _
    refine XS.iloadN X16.here hx rfl (hb hby d3_30) rfl ?_
    show Steps p.tables e below (T16.setTop (mkF m 31 #[.val (.ref o0), .val (.int (0 : Int32))] [(.int (0 : Int32)), (.ref w0), (.ref l0)])) _
    refine X16.iaload hx (j := (0 : Int32)) (v := (.int q0)) (by rw [e16]; exact Arq17.1) (State.isArrayOf_alike hZ.alike Arq17.2.1) Arq17.2.2 (inb_of Sq17 ⟨by decide, by decide⟩) (Has.at Hq17 (inb_of Sq17 ⟨by decide, by decide⟩) rfl) (g := (mkF m 31 #[.val (.ref o0), .val (.int (0 : Int32))] [(.int (0 : Int32)), (.ref w0), (.ref l0)])) rfl rfl (hb hby d3_31) _ ?_
    show Steps p.tables e below (T16.setTop (mkF m 32 #[.val (.ref o0), .val (.int (0 : Int32))] [(.int q0), (.ref l0)])) _
    refine XS.iconst X16.here hx rfl (hb hby d3_32) ?_
    show Steps p.tables e below (T16.setTop (mkF m 33 #[.val (.ref o0), .val (.int (0 : Int32))] [(.int (0 : Int32)), (.int q0), (.ref l0)])) _
    refine st19 _ ?_
    show Steps p.tables e below (T19.setTop (mkF m 34 #[.val (.ref o0), .val (.int (0 : Int32))] [])) _
    refine XS.iinc X19.here hx rfl (hb hby d3_34) rfl (l' := #[.val (.ref o0), .val (.int ((0 : Int32) + (1 : Int32)))]) rfl ?_
    show Steps p.tables e below (T19.setTop (mkF m 37 #[.val (.ref o0), .val (.int ((0 : Int32) + (1 : Int32)))] [])) _
    rw [show ((0 : Int32) + (1 : Int32)) = (1 : Int32) by decide]
    show Steps p.tables e below (T19.setTop (mkF m 37 #[.val (.ref o0), .val (.int (1 : Int32))] [])) _
    refine XS.goto X19.here hx rfl (pc0 := 37) (pc' := 2) rfl (hb hby d3_37) (by decide) (by decide) ?_
    show Steps p.tables e below (T19.setTop (mkF m 2 #[.val (.ref o0), .val (.int (1 : Int32))] [])) _
    refine XS.iloadN X19.here hx rfl (hb hby d3_2) rfl ?_
    show Steps p.tables e below (T19.setTop (mkF m 3 #[.val (.ref o0), .val (.int (1 : Int32))] [(.int (1 : Int32))])) _
    refine XS.aloadN X19.here hx rfl (hb hby d3_3) rfl rfl ?_
    show Steps p.tables e below (T19.setTop (mkF m 4 #[.val (.ref o0), .val (.int (1 : Int32))] [(.ref o0), (.int (1 : Int32))])) _
    refine st28 _ ?_
    show Steps p.tables e below (T28.setTop (mkF m 7 #[.val (.ref o0), .val (.int (1 : Int32))] [(.int (3 : Int32)), (.int (1 : Int32))])) _
    refine XS.icmpNo X28.here hx rfl (hb hby d3_7) rfl (tlt (by decide : (1 : Int32) < (3 : Int32))).2.1 ?_
    show Steps p.tables e below (T28.setTop (mkF m 10 #[.val (.ref o0), .val (.int (1 : Int32))] [])) _
    refine XS.aloadN X28.here hx rfl (hb hby d3_10) rfl rfl ?_
    show Steps p.tables e below (T28.setTop (mkF m 11 #[.val (.ref o0), .val (.int (1 : Int32))] [(.ref o0)])) _
    refine st29 _ ?_
    show Steps p.tables e below (T29.setTop (mkF m 14 #[.val (.ref o0), .val (.int (1 : Int32))] [(.ref v0)])) _
    refine XS.aloadN X29.here hx rfl (hb hby d3_14) rfl rfl ?_
    show Steps p.tables e below (T29.setTop (mkF m 15 #[.val (.ref o0), .val (.int (1 : Int32))] [(.ref o0), (.ref v0)])) _
    refine st30 _ ?_
    show Steps p.tables e below (T30.setTop (mkF m 18 #[.val (.ref o0), .val (.int (1 : Int32))] [(.ref w0), (.ref v0)])) _
    refine XS.iloadN X30.here hx rfl (hb hby d3_18) rfl ?_
    show Steps p.tables e below (T30.setTop (mkF m 19 #[.val (.ref o0), .val (.int (1 : Int32))] [(.int (1 : Int32)), (.ref w0), (.ref v0)])) _
    refine X30.iaload hx (j := (1 : Int32)) (v := (.int q1)) (by rw [e30]; exact Arq31.1) (State.isArrayOf_alike hZ.alike Arq31.2.1) Arq31.2.2 (inb_of Sq31 ⟨by decide, by decide⟩) (Has.at Hq31 (inb_of Sq31 ⟨by decide, by decide⟩) rfl) (g := (mkF m 19 #[.val (.ref o0), .val (.int (1 : Int32))] [(.int (1 : Int32)), (.ref w0), (.ref v0)])) rfl rfl (hb hby d3_19) _ ?_
    show Steps p.tables e below (T30.setTop (mkF m 20 #[.val (.ref o0), .val (.int (1 : Int32))] [(.int q1), (.ref v0)])) _
    refine XS.dconst0 X30.here hx rfl (hb hby d3_20) (v := (0 : UInt64)) rfl ?_
    show Steps p.tables e below (T30.setTop (mkF m 21 #[.val (.ref o0), .val (.int (1 : Int32))] [(.double (0 : UInt64)), (.int q1), (.ref v0)])) _
    refine st33 _ ?_
    show Steps p.tables e below (T33.setTop (mkF m 22 #[.val (.ref o0), .val (.int (1 : Int32))] [])) _
    refine XS.aloadN X33.here hx rfl (hb hby d3_22) rfl rfl ?_
    show Steps p.tables e below (T33.setTop (mkF m 23 #[.val (.ref o0), .val (.int (1 : Int32))] [(.ref o0)])) _
    refine st42 _ ?_
    show Steps p.tables e below (T42.setTop (mkF m 26 #[.val (.ref o0), .val (.int (1 : Int32))] [(.ref l0)])) _
    refine XS.aloadN X42.here hx rfl (hb hby d3_26) rfl rfl ?_
    show Steps p.tables e below (T42.setTop (mkF m 27 #[.val (.ref o0), .val (.int (1 : Int32))] [(.ref o0), (.ref l0)])) _
    refine st43 _ ?_
    show Steps p.tables e below (T43.setTop (mkF m 30 #[.val (.ref o0), .val (.int (1 : Int32))] [(.ref w0), (.ref l0)])) _
    refine XS.iloadN X43.here hx rfl (hb hby d3_30) rfl ?_
    show Steps p.tables e below (T43.setTop (mkF m 31 #[.val (.ref o0), .val (.int (1 : Int32))] [(.int (1 : Int32)), (.ref w0), (.ref l0)])) _
    refine X43.iaload hx (j := (1 : Int32)) (v := (.int q1)) (by rw [e43]; exact Arq44.1) (State.isArrayOf_alike hZ.alike Arq44.2.1) Arq44.2.2 (inb_of Sq44 ⟨by decide, by decide⟩) (Has.at Hq44 (inb_of Sq44 ⟨by decide, by decide⟩) rfl) (g := (mkF m 31 #[.val (.ref o0), .val (.int (1 : Int32))] [(.int (1 : Int32)), (.ref w0), (.ref l0)])) rfl rfl (hb hby d3_31) _ ?_
    show Steps p.tables e below (T43.setTop (mkF m 32 #[.val (.ref o0), .val (.int (1 : Int32))] [(.int q1), (.ref l0)])) _
    refine XS.iconst X43.here hx rfl (hb hby d3_32) ?_
    show Steps p.tables e below (T43.setTop (mkF m 33 #[.val (.ref o0), .val (.int (1 : Int32))] [(.int (0 : Int32)), (.int q1), (.ref l0)])) _
    refine st46 _ ?_
    show Steps p.tables e below (T46.setTop (mkF m 34 #[.val (.ref o0), .val (.int (1 : Int32))] [])) _
    refine XS.iinc X46.here hx rfl (hb hby d3_34) rfl (l' := #[.val (.ref o0), .val (.int ((1 : Int32) + (1 : Int32)))]) rfl ?_
    show Steps p.tables e below (T46.setTop (mkF m 37 #[.val (.ref o0), .val (.int ((1 : Int32) + (1 : Int32)))] [])) _
    rw [show ((1 : Int32) + (1 : Int32)) = (2 : Int32) by decide]
    show Steps p.tables e below (T46.setTop (mkF m 37 #[.val (.ref o0), .val (.int (2 : Int32))] [])) _
    refine XS.goto X46.here hx rfl (pc0 := 37) (pc' := 2) rfl (hb hby d3_37) (by decide) (by decide) ?_
    show Steps p.tables e below (T46.setTop (mkF m 2 #[.val (.ref o0), .val (.int (2 : Int32))] [])) _
    refine XS.iloadN X46.here hx rfl (hb hby d3_2) rfl ?_
    show Steps p.tables e below (T46.setTop (mkF m 3 #[.val (.ref o0), .val (.int (2 : Int32))] [(.int (2 : Int32))])) _
    refine XS.aloadN X46.here hx rfl (hb hby d3_3) rfl rfl ?_
    show Steps p.tables e below (T46.setTop (mkF m 4 #[.val (.ref o0), .val (.int (2 : Int32))] [(.ref o0), (.int (2 : Int32))])) _
    refine st55 _ ?_
    show Steps p.tables e below (T55.setTop (mkF m 7 #[.val (.ref o0), .val (.int (2 : Int32))] [(.int (3 : Int32)), (.int (2 : Int32))])) _
    refine XS.icmpNo X55.here hx rfl (hb hby d3_7) rfl (tlt (by decide : (2 : Int32) < (3 : Int32))).2.1 ?_
    show Steps p.tables e below (T55.setTop (mkF m 10 #[.val (.ref o0), .val (.int (2 : Int32))] [])) _
    refine XS.aloadN X55.here hx rfl (hb hby d3_10) rfl rfl ?_
    show Steps p.tables e below (T55.setTop (mkF m 11 #[.val (.ref o0), .val (.int (2 : Int32))] [(.ref o0)])) _
    refine st56 _ ?_
    show Steps p.tables e below (T56.setTop (mkF m 14 #[.val (.ref o0), .val (.int (2 : Int32))] [(.ref v0)])) _
    refine XS.aloadN X56.here hx rfl (hb hby d3_14) rfl rfl ?_
    show Steps p.tables e below (T56.setTop (mkF m 15 #[.val (.ref o0), .val (.int (2 : Int32))] [(.ref o0), (.ref v0)])) _
    refine st57 _ ?_
    show Steps p.tables e below (T57.setTop (mkF m 18 #[.val (.ref o0), .val (.int (2 : Int32))] [(.ref w0), (.ref v0)])) _
    refine XS.iloadN X57.here hx rfl (hb hby d3_18) rfl ?_
    show Steps p.tables e below (T57.setTop (mkF m 19 #[.val (.ref o0), .val (.int (2 : Int32))] [(.int (2 : Int32)), (.ref w0), (.ref v0)])) _
    refine X57.iaload hx (j := (2 : Int32)) (v := (.int q2)) (by rw [e57]; exact Arq58.1) (State.isArrayOf_alike hZ.alike Arq58.2.1) Arq58.2.2 (inb_of Sq58 ⟨by decide, by decide⟩) (Has.at Hq58 (inb_of Sq58 ⟨by decide, by decide⟩) rfl) (g := (mkF m 19 #[.val (.ref o0), .val (.int (2 : Int32))] [(.int (2 : Int32)), (.ref w0), (.ref v0)])) rfl rfl (hb hby d3_19) _ ?_
    show Steps p.tables e below (T57.setTop (mkF m 20 #[.val (.ref o0), .val (.int (2 : Int32))] [(.int q2), (.ref v0)])) _
    refine XS.dconst0 X57.here hx rfl (hb hby d3_20) (v := (0 : UInt64)) rfl ?_
    show Steps p.tables e below (T57.setTop (mkF m 21 #[.val (.ref o0), .val (.int (2 : Int32))] [(.double (0 : UInt64)), (.int q2), (.ref v0)])) _
    refine st60 _ ?_
    show Steps p.tables e below (T60.setTop (mkF m 22 #[.val (.ref o0), .val (.int (2 : Int32))] [])) _
    refine XS.aloadN X60.here hx rfl (hb hby d3_22) rfl rfl ?_
    show Steps p.tables e below (T60.setTop (mkF m 23 #[.val (.ref o0), .val (.int (2 : Int32))] [(.ref o0)])) _
    refine st69 _ ?_
    show Steps p.tables e below (T69.setTop (mkF m 26 #[.val (.ref o0), .val (.int (2 : Int32))] [(.ref l0)])) _
    refine XS.aloadN X69.here hx rfl (hb hby d3_26) rfl rfl ?_
    show Steps p.tables e below (T69.setTop (mkF m 27 #[.val (.ref o0), .val (.int (2 : Int32))] [(.ref o0), (.ref l0)])) _
    refine st70 _ ?_
    show Steps p.tables e below (T70.setTop (mkF m 30 #[.val (.ref o0), .val (.int (2 : Int32))] [(.ref w0), (.ref l0)])) _
    refine XS.iloadN X70.here hx rfl (hb hby d3_30) rfl ?_
    show Steps p.tables e below (T70.setTop (mkF m 31 #[.val (.ref o0), .val (.int (2 : Int32))] [(.int (2 : Int32)), (.ref w0), (.ref l0)])) _
    refine X70.iaload hx (j := (2 : Int32)) (v := (.int q2)) (by rw [e70]; exact Arq71.1) (State.isArrayOf_alike hZ.alike Arq71.2.1) Arq71.2.2 (inb_of Sq71 ⟨by decide, by decide⟩) (Has.at Hq71 (inb_of Sq71 ⟨by decide, by decide⟩) rfl) (g := (mkF m 31 #[.val (.ref o0), .val (.int (2 : Int32))] [(.int (2 : Int32)), (.ref w0), (.ref l0)])) rfl rfl (hb hby d3_31) _ ?_
    show Steps p.tables e below (T70.setTop (mkF m 32 #[.val (.ref o0), .val (.int (2 : Int32))] [(.int q2), (.ref l0)])) _
    refine XS.iconst X70.here hx rfl (hb hby d3_32) ?_
    show Steps p.tables e below (T70.setTop (mkF m 33 #[.val (.ref o0), .val (.int (2 : Int32))] [(.int (0 : Int32)), (.int q2), (.ref l0)])) _
    refine st73 _ ?_
    show Steps p.tables e below (T73.setTop (mkF m 34 #[.val (.ref o0), .val (.int (2 : Int32))] [])) _
    refine XS.iinc X73.here hx rfl (hb hby d3_34) rfl (l' := #[.val (.ref o0), .val (.int ((2 : Int32) + (1 : Int32)))]) rfl ?_
    show Steps p.tables e below (T73.setTop (mkF m 37 #[.val (.ref o0), .val (.int ((2 : Int32) + (1 : Int32)))] [])) _
    rw [show ((2 : Int32) + (1 : Int32)) = (3 : Int32) by decide]
    show Steps p.tables e below (T73.setTop (mkF m 37 #[.val (.ref o0), .val (.int (3 : Int32))] [])) _
    refine XS.goto X73.here hx rfl (pc0 := 37) (pc' := 2) rfl (hb hby d3_37) (by decide) (by decide) ?_
    show Steps p.tables e below (T73.setTop (mkF m 2 #[.val (.ref o0), .val (.int (3 : Int32))] [])) _
    refine XS.iloadN X73.here hx rfl (hb hby d3_2) rfl ?_
    show Steps p.tables e below (T73.setTop (mkF m 3 #[.val (.ref o0), .val (.int (3 : Int32))] [(.int (3 : Int32))])) _
    refine XS.aloadN X73.here hx rfl (hb hby d3_3) rfl rfl ?_
    show Steps p.tables e below (T73.setTop (mkF m 4 #[.val (.ref o0), .val (.int (3 : Int32))] [(.ref o0), (.int (3 : Int32))])) _
    refine st82 _ ?_
    show Steps p.tables e below (T82.setTop (mkF m 7 #[.val (.ref o0), .val (.int (3 : Int32))] [(.int (3 : Int32)), (.int (3 : Int32))])) _
    refine XS.icmpYes X82.here hx rfl (pc0 := 7) (pc' := 40) rfl (hb hby d3_7) rfl (flt (by decide : ¬ ((3 : Int32) < (3 : Int32)))).2.1 (by decide) (by decide) ?_
    show Steps p.tables e below (T82.setTop (mkF m 40 #[.val (.ref o0), .val (.int (3 : Int32))] [])) _
    refine XS.aloadN X82.here hx rfl (hb hby d3_40) rfl rfl ?_
    show Steps p.tables e below (T82.setTop (mkF m 41 #[.val (.ref o0), .val (.int (3 : Int32))] [(.ref o0)])) _
    refine XS.iconst X82.here hx rfl (hb hby d3_41) ?_
    show Steps p.tables e below (T82.setTop (mkF m 42 #[.val (.ref o0), .val (.int (3 : Int32))] [(.int (0 : Int32)), (.ref o0)])) _
    refine st83 _ ?_
    show Steps p.tables e below (T83.setTop (mkF m 45 #[.val (.ref o0), .val (.int (3 : Int32))] [])) _
    exact X83.returnOut hx Bd.returns (hb hby d3_45) hr
  · show Q_clr3 Z o0 v0 l0 w0 kv kl kw q0 q1 q2 q3 vs ls vs1 ls1 h0 n0 _ T83.heap _
    rw [e83]
    exact ⟨rfl, N83, K83, f87, f84, f85, f86, f91, f92, f93, f90⟩
theorem d4_0 : decode prog_87_method_2_code 0 = .ok (.aload_n 0, 1) := by decide +kernel
theorem d4_1 : decode prog_87_method_2_code 1 = .ok (.getfield 7, 3) := by decide +kernel
theorem d4_4 : decode prog_87_method_2_code 4 = .ok (.areturn, 1) := by decide +kernel
theorem ef_4_R (m : MethodId) (x0 : Addr) : entryFrame m #[(.ref x0)] 1 = mkF m 0 #[.val (.ref x0)] [] := by first | (simp [entryFrame, mkF, argsToLocals, Value.category]; done) | rfl
def Q_gv (Z : State) (o0 : Addr) (v0 : Addr) (l0 : Addr) (w0 : Addr) (kv : ClassId) (kl : ClassId) (kw : ClassId) (q0 : Int32) (q1 : Int32) (q2 : Int32) (q3 : Int32) (vs : List Value) (ls : List Value) (cn : Int32) (h0 : Heap) (n0 : Nat) (v : Option Value) (h : Heap) (L : List Loc) : Prop := v = some (.ref v0) ∧ Fr n0 L ∧ h = h0
set_option maxRecDepth 65536 in
set_option maxHeartbeats 40000000 in
theorem gv (l : Launch) (Z : State) (a0 : Array Value) (hw : ∀ d ∈ tables_1, d.before a0 Z = true) (ws : List Jvm.Cond) (o0 : Addr) (v0 : Addr) (l0 : Addr) (w0 : Addr) (kv : ClassId) (kl : ClassId) (kw : ClassId) (q0 : Int32) (q1 : Int32) (q2 : Int32) (q3 : Int32) (vs : List Value) (ls : List Value) (cn : Int32) (h0 : Heap) (n0 : Nat) (Z0 : n0 ≤ h0.size) (F_values_o0 : Fld Z h0 o0 "com/example/leeway/leeway/lp/SparseColumn" "values" "[D" (.ref v0)) (F_listed_o0 : Fld Z h0 o0 "com/example/leeway/leeway/lp/SparseColumn" "listed" "[Z" (.ref l0)) (F_rows_o0 : Fld Z h0 o0 "com/example/leeway/leeway/lp/SparseColumn" "rows" "[I" (.ref w0)) (F_count_o0 : Fld Z h0 o0 "com/example/leeway/leeway/lp/SparseColumn" "count" "I" (.int cn)) (E_o0 : Exa Z h0 o0 "com/example/leeway/leeway/lp/SparseColumn") (V_v0 : Arv Z h0 v0 kv .double (4 : Int32) vs (.double (0 : UInt64))) (V_l0 : Arv Z h0 l0 kl .boolean (4 : Int32) ls (.int (0 : Int32))) (V_w0 : Arv Z h0 w0 kw .int (4 : Int32) [(.int q0), (.int q1), (.int q2), (.int q3)] (.int (0 : Int32))) :
    MetFree l (⟨"com/example/leeway/leeway/lp/SparseColumn", "values", "()[D"⟩ : MethodName) (head1 (Jvm.Cond.code (⟨"com/example/leeway/leeway/lp/SparseColumn", "values", "()[D"⟩ : MethodName) prog_87_method_2_code 1 (some (.array .double)) :: ws) ({ frames := 0, cells := 0, slots := 0, locals := 0 } : Room)) (fun a U => a = #[(.ref o0)] ∧ Z.Warmed39 U.vm ∧ U.heap = h0) (fun _ _ _ _ _ => True) (fun _ U o U' => ∃ v L, o = .returned v ∧ Q_gv Z o0 v0 l0 w0 kv kl kw q0 q1 q2 q3 vs ls cn h0 n0 v U'.heap L ∧ FrameEnd U o U' L ({ frames := 0, cells := 0, slots := 0, locals := 0 } : Room).cells ({ frames := 0, cells := 0, slots := 0, locals := 0 } : Room).slots) := by
  refine MetFree.of_bodySF (plainFor_of_name pn_com_example_leeway_leeway_lp_SparseColumn) hisR ?_
  intro p e s m args below meth c s₁ Bd hml0 hP hK
  obtain ⟨rfl, hZ, hh⟩ := hP
  have hx := Bd.exec
  have hby := Bd.bytes
  have hml : c.maxLocals = 1 := hml0
  have hown : s.vm.findClass "com/example/leeway/leeway/lp/SparseColumn" = some m.cls := findClass_of_methodNamed Bd.named
  have hnm := (name_of_methodNamed Bd.named Bd.method).1
  have X0 : Stand p l e ({ frames := 0, cells := 0, slots := 0, locals := 0 } : Room) s m #[(.ref o0)] below meth c s₁ [] 0 0 := Stand.of_body Bd
  have e0 : s₁.heap = h0 := by rw [← hh, Bd.state]; rfl
  have N0 := Fr.nil n0
  have pre0 : ∀ t, Steps p.tables e below (s₁.setTop (mkF m 0 #[.val (.ref o0)] [])) t → Steps p.tables e below (s₁.setTop (entryFrame m #[(.ref o0)] 1)) t := fun t k => castTop (ef_4_R m o0) k
  obtain ⟨T1, X1, e1, st1⟩ := getF X0 hx hZ hown (host := "") (Or.inl (hw _ (List.mem_of_getElem? (i := 10) rfl))) Via.refl e0 F_values_o0 (g := (mkF m 1 #[.val (.ref o0)] [(.ref o0)])) rfl rfl (hb hby d4_1)
  obtain ⟨fs, hr, hrun, hended, hW, hsame⟩ := X1.leave (v := some (.ref v0)) (fun h => by rw [Bd.returns] at h; cases h)
  refine ⟨_, _, pre0 _ ?_, hrun, hended, _, _, rfl, ?_, ⟨_, rfl⟩, hW, hsame.mono (by decide) (by decide)⟩
  · show Steps p.tables e below (s₁.setTop (mkF m 0 #[.val (.ref o0)] [])) _
    refine XS.aloadN X0.here hx rfl (hb hby d4_0) rfl rfl ?_
    show Steps p.tables e below (s₁.setTop (mkF m 1 #[.val (.ref o0)] [(.ref o0)])) _
    refine st1 _ ?_
    show Steps p.tables e below (T1.setTop (mkF m 4 #[.val (.ref o0)] [(.ref v0)])) _
    exact retOut X1 hx Bd.returns rfl (Or.inr (Or.inr (Or.inr (Or.inr ⟨rfl, rfl, rfl⟩)))) (hb hby d4_4) hr
  · show Q_gv Z o0 v0 l0 w0 kv kl kw q0 q1 q2 q3 vs ls cn h0 n0 _ T1.heap _
    rw [e1]
    exact ⟨rfl, N0, rfl⟩
theorem d5_0 : decode prog_87_method_4_code 0 = .ok (.aload_n 0, 1) := by decide +kernel
theorem d5_1 : decode prog_87_method_4_code 1 = .ok (.getfield 21, 3) := by decide +kernel
theorem d5_4 : decode prog_87_method_4_code 4 = .ok (.ireturn, 1) := by decide +kernel
theorem ef_5_R (m : MethodId) (x0 : Addr) : entryFrame m #[(.ref x0)] 1 = mkF m 0 #[.val (.ref x0)] [] := by first | (simp [entryFrame, mkF, argsToLocals, Value.category]; done) | rfl
def Q_gc (Z : State) (o0 : Addr) (v0 : Addr) (l0 : Addr) (w0 : Addr) (kv : ClassId) (kl : ClassId) (kw : ClassId) (q0 : Int32) (q1 : Int32) (q2 : Int32) (q3 : Int32) (vs : List Value) (ls : List Value) (cn : Int32) (h0 : Heap) (n0 : Nat) (v : Option Value) (h : Heap) (L : List Loc) : Prop := v = some (.int cn) ∧ Fr n0 L ∧ h = h0
set_option maxRecDepth 65536 in
set_option maxHeartbeats 40000000 in
theorem gc (l : Launch) (Z : State) (a0 : Array Value) (hw : ∀ d ∈ tables_1, d.before a0 Z = true) (ws : List Jvm.Cond) (o0 : Addr) (v0 : Addr) (l0 : Addr) (w0 : Addr) (kv : ClassId) (kl : ClassId) (kw : ClassId) (q0 : Int32) (q1 : Int32) (q2 : Int32) (q3 : Int32) (vs : List Value) (ls : List Value) (cn : Int32) (h0 : Heap) (n0 : Nat) (Z0 : n0 ≤ h0.size) (F_values_o0 : Fld Z h0 o0 "com/example/leeway/leeway/lp/SparseColumn" "values" "[D" (.ref v0)) (F_listed_o0 : Fld Z h0 o0 "com/example/leeway/leeway/lp/SparseColumn" "listed" "[Z" (.ref l0)) (F_rows_o0 : Fld Z h0 o0 "com/example/leeway/leeway/lp/SparseColumn" "rows" "[I" (.ref w0)) (F_count_o0 : Fld Z h0 o0 "com/example/leeway/leeway/lp/SparseColumn" "count" "I" (.int cn)) (E_o0 : Exa Z h0 o0 "com/example/leeway/leeway/lp/SparseColumn") (V_v0 : Arv Z h0 v0 kv .double (4 : Int32) vs (.double (0 : UInt64))) (V_l0 : Arv Z h0 l0 kl .boolean (4 : Int32) ls (.int (0 : Int32))) (V_w0 : Arv Z h0 w0 kw .int (4 : Int32) [(.int q0), (.int q1), (.int q2), (.int q3)] (.int (0 : Int32))) :
    MetFree l (⟨"com/example/leeway/leeway/lp/SparseColumn", "count", "()I"⟩ : MethodName) (head1 (Jvm.Cond.code (⟨"com/example/leeway/leeway/lp/SparseColumn", "count", "()I"⟩ : MethodName) prog_87_method_4_code 1 (some .int) :: ws) ({ frames := 0, cells := 0, slots := 0, locals := 0 } : Room)) (fun a U => a = #[(.ref o0)] ∧ Z.Warmed39 U.vm ∧ U.heap = h0) (fun _ _ _ _ _ => True) (fun _ U o U' => ∃ v L, o = .returned v ∧ Q_gc Z o0 v0 l0 w0 kv kl kw q0 q1 q2 q3 vs ls cn h0 n0 v U'.heap L ∧ FrameEnd U o U' L ({ frames := 0, cells := 0, slots := 0, locals := 0 } : Room).cells ({ frames := 0, cells := 0, slots := 0, locals := 0 } : Room).slots) := by
  refine MetFree.of_bodySF (plainFor_of_name pn_com_example_leeway_leeway_lp_SparseColumn) hisR ?_
  intro p e s m args below meth c s₁ Bd hml0 hP hK
  obtain ⟨rfl, hZ, hh⟩ := hP
  have hx := Bd.exec
  have hby := Bd.bytes
  have hml : c.maxLocals = 1 := hml0
  have hown : s.vm.findClass "com/example/leeway/leeway/lp/SparseColumn" = some m.cls := findClass_of_methodNamed Bd.named
  have hnm := (name_of_methodNamed Bd.named Bd.method).1
  have X0 : Stand p l e ({ frames := 0, cells := 0, slots := 0, locals := 0 } : Room) s m #[(.ref o0)] below meth c s₁ [] 0 0 := Stand.of_body Bd
  have e0 : s₁.heap = h0 := by rw [← hh, Bd.state]; rfl
  have N0 := Fr.nil n0
  have pre0 : ∀ t, Steps p.tables e below (s₁.setTop (mkF m 0 #[.val (.ref o0)] [])) t → Steps p.tables e below (s₁.setTop (entryFrame m #[(.ref o0)] 1)) t := fun t k => castTop (ef_5_R m o0) k
  obtain ⟨T1, X1, e1, st1⟩ := getF X0 hx hZ hown (host := "") (Or.inl (hw _ (List.mem_of_getElem? (i := 23) rfl))) Via.refl e0 F_count_o0 (g := (mkF m 1 #[.val (.ref o0)] [(.ref o0)])) rfl rfl (hb hby d5_1)
  obtain ⟨fs, hr, hrun, hended, hW, hsame⟩ := X1.leave (v := some (.int cn)) (fun h => by rw [Bd.returns] at h; cases h)
  refine ⟨_, _, pre0 _ ?_, hrun, hended, _, _, rfl, ?_, ⟨_, rfl⟩, hW, hsame.mono (by decide) (by decide)⟩
  · show Steps p.tables e below (s₁.setTop (mkF m 0 #[.val (.ref o0)] [])) _
    refine XS.aloadN X0.here hx rfl (hb hby d5_0) rfl rfl ?_
    show Steps p.tables e below (s₁.setTop (mkF m 1 #[.val (.ref o0)] [(.ref o0)])) _
    refine st1 _ ?_
    show Steps p.tables e below (T1.setTop (mkF m 4 #[.val (.ref o0)] [(.int cn)])) _
    exact retOut X1 hx Bd.returns rfl (Or.inl ⟨rfl, Or.inl rfl, _, rfl⟩) (hb hby d5_4) hr
  · show Q_gc Z o0 v0 l0 w0 kv kl kw q0 q1 q2 q3 vs ls cn h0 n0 _ T1.heap _
    rw [e1]
    exact ⟨rfl, N0, rfl⟩
theorem d7_0 : decode prog_87_method_3_code 0 = .ok (.aload_n 0, 1) := by decide +kernel
theorem d7_1 : decode prog_87_method_3_code 1 = .ok (.getfield 17, 3) := by decide +kernel
theorem d7_4 : decode prog_87_method_3_code 4 = .ok (.areturn, 1) := by decide +kernel
theorem ef_7_R (m : MethodId) (x0 : Addr) : entryFrame m #[(.ref x0)] 1 = mkF m 0 #[.val (.ref x0)] [] := by first | (simp [entryFrame, mkF, argsToLocals, Value.category]; done) | rfl
def Q_gr (Z : State) (o0 : Addr) (v0 : Addr) (l0 : Addr) (w0 : Addr) (kv : ClassId) (kl : ClassId) (kw : ClassId) (q0 : Int32) (q1 : Int32) (q2 : Int32) (q3 : Int32) (vs : List Value) (ls : List Value) (cn : Int32) (h0 : Heap) (n0 : Nat) (v : Option Value) (h : Heap) (L : List Loc) : Prop := v = some (.ref w0) ∧ Fr n0 L ∧ h = h0
set_option maxRecDepth 65536 in
set_option maxHeartbeats 40000000 in
theorem gr (l : Launch) (Z : State) (a0 : Array Value) (hw : ∀ d ∈ tables_1, d.before a0 Z = true) (ws : List Jvm.Cond) (o0 : Addr) (v0 : Addr) (l0 : Addr) (w0 : Addr) (kv : ClassId) (kl : ClassId) (kw : ClassId) (q0 : Int32) (q1 : Int32) (q2 : Int32) (q3 : Int32) (vs : List Value) (ls : List Value) (cn : Int32) (h0 : Heap) (n0 : Nat) (Z0 : n0 ≤ h0.size) (F_values_o0 : Fld Z h0 o0 "com/example/leeway/leeway/lp/SparseColumn" "values" "[D" (.ref v0)) (F_listed_o0 : Fld Z h0 o0 "com/example/leeway/leeway/lp/SparseColumn" "listed" "[Z" (.ref l0)) (F_rows_o0 : Fld Z h0 o0 "com/example/leeway/leeway/lp/SparseColumn" "rows" "[I" (.ref w0)) (F_count_o0 : Fld Z h0 o0 "com/example/leeway/leeway/lp/SparseColumn" "count" "I" (.int cn)) (E_o0 : Exa Z h0 o0 "com/example/leeway/leeway/lp/SparseColumn") (V_v0 : Arv Z h0 v0 kv .double (4 : Int32) vs (.double (0 : UInt64))) (V_l0 : Arv Z h0 l0 kl .boolean (4 : Int32) ls (.int (0 : Int32))) (V_w0 : Arv Z h0 w0 kw .int (4 : Int32) [(.int q0), (.int q1), (.int q2), (.int q3)] (.int (0 : Int32))) :
    MetFree l (⟨"com/example/leeway/leeway/lp/SparseColumn", "rows", "()[I"⟩ : MethodName) (head1 (Jvm.Cond.code (⟨"com/example/leeway/leeway/lp/SparseColumn", "rows", "()[I"⟩ : MethodName) prog_87_method_3_code 1 (some (.array .int)) :: ws) ({ frames := 0, cells := 0, slots := 0, locals := 0 } : Room)) (fun a U => a = #[(.ref o0)] ∧ Z.Warmed39 U.vm ∧ U.heap = h0) (fun _ _ _ _ _ => True) (fun _ U o U' => ∃ v L, o = .returned v ∧ Q_gr Z o0 v0 l0 w0 kv kl kw q0 q1 q2 q3 vs ls cn h0 n0 v U'.heap L ∧ FrameEnd U o U' L ({ frames := 0, cells := 0, slots := 0, locals := 0 } : Room).cells ({ frames := 0, cells := 0, slots := 0, locals := 0 } : Room).slots) := by
  refine MetFree.of_bodySF (plainFor_of_name pn_com_example_leeway_leeway_lp_SparseColumn) hisR ?_
  intro p e s m args below meth c s₁ Bd hml0 hP hK
  obtain ⟨rfl, hZ, hh⟩ := hP
  have hx := Bd.exec
  have hby := Bd.bytes
  have hml : c.maxLocals = 1 := hml0
  have hown : s.vm.findClass "com/example/leeway/leeway/lp/SparseColumn" = some m.cls := findClass_of_methodNamed Bd.named
  have hnm := (name_of_methodNamed Bd.named Bd.method).1
  have X0 : Stand p l e ({ frames := 0, cells := 0, slots := 0, locals := 0 } : Room) s m #[(.ref o0)] below meth c s₁ [] 0 0 := Stand.of_body Bd
  have e0 : s₁.heap = h0 := by rw [← hh, Bd.state]; rfl
  have N0 := Fr.nil n0
  have pre0 : ∀ t, Steps p.tables e below (s₁.setTop (mkF m 0 #[.val (.ref o0)] [])) t → Steps p.tables e below (s₁.setTop (entryFrame m #[(.ref o0)] 1)) t := fun t k => castTop (ef_7_R m o0) k
  obtain ⟨T1, X1, e1, st1⟩ := getF X0 hx hZ hown (host := "") (Or.inl (hw _ (List.mem_of_getElem? (i := 16) rfl))) Via.refl e0 F_rows_o0 (g := (mkF m 1 #[.val (.ref o0)] [(.ref o0)])) rfl rfl (hb hby d7_1)
  obtain ⟨fs, hr, hrun, hended, hW, hsame⟩ := X1.leave (v := some (.ref w0)) (fun h => by rw [Bd.returns] at h; cases h)
  refine ⟨_, _, pre0 _ ?_, hrun, hended, _, _, rfl, ?_, ⟨_, rfl⟩, hW, hsame.mono (by decide) (by decide)⟩
  · show Steps p.tables e below (s₁.setTop (mkF m 0 #[.val (.ref o0)] [])) _
    refine XS.aloadN X0.here hx rfl (hb hby d7_0) rfl rfl ?_
    show Steps p.tables e below (s₁.setTop (mkF m 1 #[.val (.ref o0)] [(.ref o0)])) _
    refine st1 _ ?_
    show Steps p.tables e below (T1.setTop (mkF m 4 #[.val (.ref o0)] [(.ref w0)])) _
    exact retOut X1 hx Bd.returns rfl (Or.inr (Or.inr (Or.inr (Or.inr ⟨rfl, rfl, rfl⟩)))) (hb hby d7_4) hr
  · show Q_gr Z o0 v0 l0 w0 kv kl kw q0 q1 q2 q3 vs ls cn h0 n0 _ T1.heap _
    rw [e1]
    exact ⟨rfl, N0, rfl⟩
theorem d8_0 : decode method_2_code 0 = .ok (.iload_n 1, 1) := by decide +kernel
theorem d8_1 : decode method_2_code 1 = .ok (.iload_n 2, 1) := by decide +kernel
theorem d8_2 : decode method_2_code 2 = .ok (.if_icmp .eq 11, 3) := by decide +kernel
theorem d8_13 : decode method_2_code 13 = .ok (.iconst 1, 1) := by decide +kernel
theorem d8_14 : decode method_2_code 14 = .ok (.goto 4, 3) := by decide +kernel
theorem d8_18 : decode method_2_code 18 = .ok (.ireturn, 1) := by decide +kernel
theorem pn_com_example_leeway_leeway_lp_SparseColumnClearPinLaw : plainName "com/example/leeway/leeway/lp/SparseColumnClearPinLaw" = true := by first | (simp [plainName, overriddenIn]; done) | decide +kernel
theorem ef_8_RII (m : MethodId) (x0 : Addr) (x1 : Int32) (x2 : Int32) : entryFrame m #[(.ref x0), (.int x1), (.int x2)] 3 = mkF m 0 #[.val (.ref x0), .val (.int x1), .val (.int x2)] [] := by first | (simp [entryFrame, mkF, argsToLocals, Value.category]; done) | rfl
def Q_zu1 (Z : State) (s0 : Addr) (kv : ClassId) (vs : List Value) (jj : Int32) (i : Int32) (h0 : Heap) (n0 : Nat) (v : Option Value) (h : Heap) (L : List Loc) : Prop := v = some (.int (1 : Int32)) ∧ Fr n0 L ∧ h = h0
set_option maxRecDepth 65536 in
set_option maxHeartbeats 40000000 in
theorem zu1 (l : Launch) (Z : State) (a0 : Array Value) (hw : ∀ d ∈ tables_1, d.before a0 Z = true) (ws : List Jvm.Cond) (s0 : Addr) (kv : ClassId) (vs : List Value) (jj : Int32) (i : Int32) (h0 : Heap) (n0 : Nat) (Z0 : n0 ≤ h0.size) (V_s0 : Arv Z h0 s0 kv .double (4 : Int32) vs (.double (0 : UInt64))) (hc2 : jj = i) :
    MetFree l (⟨"com/example/leeway/leeway/lp/SparseColumnClearPinLaw", "zeroUnless", "([DII)Z"⟩ : MethodName) (head1 (Jvm.Cond.code (⟨"com/example/leeway/leeway/lp/SparseColumnClearPinLaw", "zeroUnless", "([DII)Z"⟩ : MethodName) method_2_code 3 (some .boolean) :: ws) ({ frames := 0, cells := 0, slots := 0, locals := 0 } : Room)) (fun a U => a = #[(.ref s0), (.int jj), (.int i)] ∧ Z.Warmed39 U.vm ∧ U.heap = h0) (fun _ _ _ _ _ => True) (fun _ U o U' => ∃ v L, o = .returned v ∧ Q_zu1 Z s0 kv vs jj i h0 n0 v U'.heap L ∧ FrameEnd U o U' L ({ frames := 0, cells := 0, slots := 0, locals := 0 } : Room).cells ({ frames := 0, cells := 0, slots := 0, locals := 0 } : Room).slots) := by
  refine MetFree.of_bodySF (plainFor_of_name pn_com_example_leeway_leeway_lp_SparseColumnClearPinLaw) hisR ?_
  intro p e s m args below meth c s₁ Bd hml0 hP hK
  obtain ⟨rfl, hZ, hh⟩ := hP
  have hx := Bd.exec
  have hby := Bd.bytes
  have hml : c.maxLocals = 3 := hml0
  have hown : s.vm.findClass "com/example/leeway/leeway/lp/SparseColumnClearPinLaw" = some m.cls := findClass_of_methodNamed Bd.named
  have hnm := (name_of_methodNamed Bd.named Bd.method).1
  have X0 : Stand p l e ({ frames := 0, cells := 0, slots := 0, locals := 0 } : Room) s m #[(.ref s0), (.int jj), (.int i)] below meth c s₁ [] 0 0 := Stand.of_body Bd
  have e0 : s₁.heap = h0 := by rw [← hh, Bd.state]; rfl
  have N0 := Fr.nil n0
  have pre0 : ∀ t, Steps p.tables e below (s₁.setTop (mkF m 0 #[.val (.ref s0), .val (.int jj), .val (.int i)] [])) t → Steps p.tables e below (s₁.setTop (entryFrame m #[(.ref s0), (.int jj), (.int i)] 3)) t := fun t k => castTop (ef_8_RII m s0 jj i) k
  obtain ⟨fs, hr, hrun, hended, hW, hsame⟩ := X0.leave (v := some (.int (1 : Int32))) (fun h => by rw [Bd.returns] at h; cases h)
  refine ⟨_, _, pre0 _ ?_, hrun, hended, _, _, rfl, ?_, ⟨_, rfl⟩, hW, hsame.mono (by decide) (by decide)⟩
  · show Steps p.tables e below (s₁.setTop (mkF m 0 #[.val (.ref s0), .val (.int jj), .val (.int i)] [])) _
    refine XS.iloadN X0.here hx rfl (hb hby d8_0) rfl ?_
    show Steps p.tables e below (s₁.setTop (mkF m 1 #[.val (.ref s0), .val (.int jj), .val (.int i)] [(.int jj)])) _
    refine XS.iloadN X0.here hx rfl (hb hby d8_1) rfl ?_
    show Steps p.tables e below (s₁.setTop (mkF m 2 #[.val (.ref s0), .val (.int jj), .val (.int i)] [(.int i), (.int jj)])) _
    refine XS.icmpYes X0.here hx rfl (pc0 := 2) (pc' := 13) rfl (hb hby d8_2) rfl (teq hc2).1 (by decide) (by decide) ?_
    show Steps p.tables e below (s₁.setTop (mkF m 13 #[.val (.ref s0), .val (.int jj), .val (.int i)] [])) _
    refine XS.iconst X0.here hx rfl (hb hby d8_13) ?_
    show Steps p.tables e below (s₁.setTop (mkF m 14 #[.val (.ref s0), .val (.int jj), .val (.int i)] [(.int (1 : Int32))])) _
    refine XS.goto X0.here hx rfl (pc0 := 14) (pc' := 18) rfl (hb hby d8_14) (by decide) (by decide) ?_
    show Steps p.tables e below (s₁.setTop (mkF m 18 #[.val (.ref s0), .val (.int jj), .val (.int i)] [(.int (1 : Int32))])) _
    exact retN X0 hx (t := .boolean) Bd.returns (by simp) (hb hby d8_18) hr
  · show Q_zu1 Z s0 kv vs jj i h0 n0 _ s₁.heap _
    rw [e0]
    exact ⟨rfl, N0, rfl⟩
theorem d8_5 : decode method_2_code 5 = .ok (.aload_n 0, 1) := by decide +kernel
theorem d8_6 : decode method_2_code 6 = .ok (.iload_n 1, 1) := by decide +kernel
theorem d8_7 : decode method_2_code 7 = .ok (.daload, 1) := by decide +kernel
theorem d8_8 : decode method_2_code 8 = .ok (.dconst 0, 1) := by decide +kernel
theorem d8_9 : decode method_2_code 9 = .ok (.dcmp .l, 1) := by decide +kernel
theorem d8_10 : decode method_2_code 10 = .ok (.ifCond .ne 7, 3) := by decide +kernel
def Q_zu0 (Z : State) (s0 : Addr) (kv : ClassId) (vs : List Value) (jj : Int32) (i : Int32) (h0 : Heap) (n0 : Nat) (v : Option Value) (h : Heap) (L : List Loc) : Prop := v = some (.int (1 : Int32)) ∧ Fr n0 L ∧ h = h0
set_option maxRecDepth 65536 in
set_option maxHeartbeats 40000000 in
theorem zu0 (l : Launch) (Z : State) (a0 : Array Value) (hw : ∀ d ∈ tables_1, d.before a0 Z = true) (ws : List Jvm.Cond) (s0 : Addr) (kv : ClassId) (vs : List Value) (jj : Int32) (i : Int32) (h0 : Heap) (n0 : Nat) (Z0 : n0 ≤ h0.size) (V_s0 : Arv Z h0 s0 kv .double (4 : Int32) vs (.double (0 : UInt64))) (hix : ¬ jj < 0 ∧ jj < (4 : Int32)) (hrd : vs.getD jj.toNatClampNeg (.double (0 : UInt64)) = .double (0 : UInt64)) (hc2 : ¬ (jj = i)) (hd9 : (cmpValue (FP.dcmp (0 : UInt64) (0 : UInt64)) .l) = (0 : Int32)) :
    MetFree l (⟨"com/example/leeway/leeway/lp/SparseColumnClearPinLaw", "zeroUnless", "([DII)Z"⟩ : MethodName) (head1 (Jvm.Cond.code (⟨"com/example/leeway/leeway/lp/SparseColumnClearPinLaw", "zeroUnless", "([DII)Z"⟩ : MethodName) method_2_code 3 (some .boolean) :: ws) ({ frames := 0, cells := 0, slots := 0, locals := 0 } : Room)) (fun a U => a = #[(.ref s0), (.int jj), (.int i)] ∧ Z.Warmed39 U.vm ∧ U.heap = h0) (fun _ _ _ _ _ => True) (fun _ U o U' => ∃ v L, o = .returned v ∧ Q_zu0 Z s0 kv vs jj i h0 n0 v U'.heap L ∧ FrameEnd U o U' L ({ frames := 0, cells := 0, slots := 0, locals := 0 } : Room).cells ({ frames := 0, cells := 0, slots := 0, locals := 0 } : Room).slots) := by
  refine MetFree.of_bodySF (plainFor_of_name pn_com_example_leeway_leeway_lp_SparseColumnClearPinLaw) hisR ?_
  intro p e s m args below meth c s₁ Bd hml0 hP hK
  obtain ⟨rfl, hZ, hh⟩ := hP
  have hx := Bd.exec
  have hby := Bd.bytes
  have hml : c.maxLocals = 3 := hml0
  have hown : s.vm.findClass "com/example/leeway/leeway/lp/SparseColumnClearPinLaw" = some m.cls := findClass_of_methodNamed Bd.named
  have hnm := (name_of_methodNamed Bd.named Bd.method).1
  have X0 : Stand p l e ({ frames := 0, cells := 0, slots := 0, locals := 0 } : Room) s m #[(.ref s0), (.int jj), (.int i)] below meth c s₁ [] 0 0 := Stand.of_body Bd
  have e0 : s₁.heap = h0 := by rw [← hh, Bd.state]; rfl
  have N0 := Fr.nil n0
  have pre0 : ∀ t, Steps p.tables e below (s₁.setTop (mkF m 0 #[.val (.ref s0), .val (.int jj), .val (.int i)] [])) t → Steps p.tables e below (s₁.setTop (entryFrame m #[(.ref s0), (.int jj), (.int i)] 3)) t := fun t k => castTop (ef_8_RII m s0 jj i) k
  obtain ⟨cq1, Arq1, -, Sq1, -, Hq1, -⟩ := id V_s0
  obtain ⟨fs, hr, hrun, hended, hW, hsame⟩ := X0.leave (v := some (.int (1 : Int32))) (fun h => by rw [Bd.returns] at h; cases h)
  refine ⟨_, _, pre0 _ ?_, hrun, hended, _, _, rfl, ?_, ⟨_, rfl⟩, hW, hsame.mono (by decide) (by decide)⟩
  · show Steps p.tables e below (s₁.setTop (mkF m 0 #[.val (.ref s0), .val (.int jj), .val (.int i)] [])) _
    refine XS.iloadN X0.here hx rfl (hb hby d8_0) rfl ?_
    show Steps p.tables e below (s₁.setTop (mkF m 1 #[.val (.ref s0), .val (.int jj), .val (.int i)] [(.int jj)])) _
    refine XS.iloadN X0.here hx rfl (hb hby d8_1) rfl ?_
    show Steps p.tables e below (s₁.setTop (mkF m 2 #[.val (.ref s0), .val (.int jj), .val (.int i)] [(.int i), (.int jj)])) _
    refine XS.icmpNo X0.here hx rfl (hb hby d8_2) rfl (feq hc2).1 ?_
    show Steps p.tables e below (s₁.setTop (mkF m 5 #[.val (.ref s0), .val (.int jj), .val (.int i)] [])) _
    refine XS.aloadN X0.here hx rfl (hb hby d8_5) rfl rfl ?_
    show Steps p.tables e below (s₁.setTop (mkF m 6 #[.val (.ref s0), .val (.int jj), .val (.int i)] [(.ref s0)])) _
    refine XS.iloadN X0.here hx rfl (hb hby d8_6) rfl ?_
    show Steps p.tables e below (s₁.setTop (mkF m 7 #[.val (.ref s0), .val (.int jj), .val (.int i)] [(.int jj), (.ref s0)])) _
    refine X0.daload hx (j := jj) (v := (.double (0 : UInt64))) (by rw [e0]; exact Arq1.1) (State.isArrayOf_alike hZ.alike Arq1.2.1) Arq1.2.2 (inb_of Sq1 hix) (Has.at Hq1 (inb_of Sq1 hix) hrd) (g := (mkF m 7 #[.val (.ref s0), .val (.int jj), .val (.int i)] [(.int jj), (.ref s0)])) rfl rfl (hb hby d8_7) _ ?_
    show Steps p.tables e below (s₁.setTop (mkF m 8 #[.val (.ref s0), .val (.int jj), .val (.int i)] [(.double (0 : UInt64))])) _
    refine XS.dconst0 X0.here hx rfl (hb hby d8_8) (v := (0 : UInt64)) rfl ?_
    show Steps p.tables e below (s₁.setTop (mkF m 9 #[.val (.ref s0), .val (.int jj), .val (.int i)] [(.double (0 : UInt64)), (.double (0 : UInt64))])) _
    refine XS.dcmpS X0.here hx rfl (hb hby d8_9) rfl (v := (0 : Int32)) hd9 ?_
    show Steps p.tables e below (s₁.setTop (mkF m 10 #[.val (.ref s0), .val (.int jj), .val (.int i)] [(.int (0 : Int32))])) _
    refine XS.ifNo X0.here hx rfl (hb hby d8_10) rfl ((if0 _ _).trans (teq (by decide : (0 : Int32) = (0 : Int32))).2) ?_
    show Steps p.tables e below (s₁.setTop (mkF m 13 #[.val (.ref s0), .val (.int jj), .val (.int i)] [])) _
    refine XS.iconst X0.here hx rfl (hb hby d8_13) ?_
    show Steps p.tables e below (s₁.setTop (mkF m 14 #[.val (.ref s0), .val (.int jj), .val (.int i)] [(.int (1 : Int32))])) _
    refine XS.goto X0.here hx rfl (pc0 := 14) (pc' := 18) rfl (hb hby d8_14) (by decide) (by decide) ?_
    show Steps p.tables e below (s₁.setTop (mkF m 18 #[.val (.ref s0), .val (.int jj), .val (.int i)] [(.int (1 : Int32))])) _
    exact retN X0 hx (t := .boolean) Bd.returns (by simp) (hb hby d8_18) hr
  · show Q_zu0 Z s0 kv vs jj i h0 n0 _ s₁.heap _
    rw [e0]
    exact ⟨rfl, N0, rfl⟩
def Q_zu (Z : State) (s0 : Addr) (kv : ClassId) (vs : List Value) (jj : Int32) (i : Int32) (h0 : Heap) (n0 : Nat) (v : Option Value) (h : Heap) (L : List Loc) : Prop := v = some (.int (1 : Int32)) ∧ Fr n0 L ∧ h = h0
theorem zu (l : Launch) (Z : State) (a0 : Array Value) (hw : ∀ d ∈ tables_1, d.before a0 Z = true) (ws : List Jvm.Cond) (s0 : Addr) (kv : ClassId) (vs : List Value) (jj : Int32) (i : Int32) (h0 : Heap) (n0 : Nat) (Z0 : n0 ≤ h0.size) (V_s0 : Arv Z h0 s0 kv .double (4 : Int32) vs (.double (0 : UInt64))) (hix : ¬ jj < 0 ∧ jj < (4 : Int32)) (hrd : ¬ (jj = i) → vs.getD jj.toNatClampNeg (.double (0 : UInt64)) = .double (0 : UInt64)) (hd9 : (cmpValue (FP.dcmp (0 : UInt64) (0 : UInt64)) .l) = (0 : Int32)) :
    MetFree l (⟨"com/example/leeway/leeway/lp/SparseColumnClearPinLaw", "zeroUnless", "([DII)Z"⟩ : MethodName) (head1 (Jvm.Cond.code (⟨"com/example/leeway/leeway/lp/SparseColumnClearPinLaw", "zeroUnless", "([DII)Z"⟩ : MethodName) method_2_code 3 (some .boolean) :: ws) ({ frames := 0, cells := 0, slots := 0, locals := 0 } : Room)) (fun a U => a = #[(.ref s0), (.int jj), (.int i)] ∧ Z.Warmed39 U.vm ∧ U.heap = h0) (fun _ _ _ _ _ => True) (fun _ U o U' => ∃ v L, o = .returned v ∧ Q_zu Z s0 kv vs jj i h0 n0 v U'.heap L ∧ FrameEnd U o U' L ({ frames := 0, cells := 0, slots := 0, locals := 0 } : Room).cells ({ frames := 0, cells := 0, slots := 0, locals := 0 } : Room).slots) := by
  by_cases hq : jj = i
  · exact zu1 l Z a0 hw ws s0 kv vs jj i h0 n0 Z0 (V_s0 := V_s0) (hc2 := hq)
  · exact zu0 l Z a0 hw ws s0 kv vs jj i h0 n0 Z0 (V_s0 := V_s0) (hix := hix) (hrd := hrd hq) (hc2 := hq) (hd9 := hd9)
theorem pd_0 : parseMethodDescriptor "(I)V" = some ⟨[.int], none⟩ := by decide +kernel
theorem pd_1 : parseMethodDescriptor "()V" = some ⟨[], none⟩ := by decide +kernel
theorem pd_2 : parseMethodDescriptor "()[D" = some ⟨[], some (.array .double)⟩ := by decide +kernel
theorem pd_3 : parseMethodDescriptor "()I" = some ⟨[], some .int⟩ := by decide +kernel
theorem pd_4 : parseMethodDescriptor "(ID)V" = some ⟨[.int, .double], none⟩ := by decide +kernel
theorem pd_5 : parseMethodDescriptor "()[I" = some ⟨[], some (.array .int)⟩ := by decide +kernel
theorem pd_6 : parseMethodDescriptor "([DII)Z" = some ⟨[(.array .double), .int, .int], some .boolean⟩ := by decide +kernel
theorem ef_0_IIIII (m : MethodId) (x0 : Int32) (x1 : Int32) (x2 : Int32) (x3 : Int32) (x4 : Int32) : entryFrame m #[(.int x0), (.int x1), (.int x2), (.int x3), (.int x4)] maxLocals = mkF m 0 #[.val (.int x0), .val (.int x1), .val (.int x2), .val (.int x3), .val (.int x4), .unset, .unset, .unset, .unset, .unset, .unset, .unset, .unset] [] := by first | (simp [entryFrame, mkF, argsToLocals, Value.category, maxLocals]; done) | rfl
def Q0 (n0 : Nat) (v : Option Value) (h : Heap) (L : List Loc) : Prop := v = some (.int (1 : Int32)) ∧ Fr n0 L
set_option maxRecDepth 65536 in
set_option maxHeartbeats 40000000 in
theorem rm0 (l : Launch) (Z : State) (a0 : Array Value) (hw : ∀ d ∈ tables_1, d.before a0 Z = true) (ws : List Jvm.Cond) (p0 : Int32) (p1 : Int32) (p2 : Int32) (p3 : Int32) (p4 : Int32) (i4 : Int32) (U9 : List Value) (M9 : List Value) (y9 : UInt64) (i1 : Int32) (i2 : Int32) (i3 : Int32) (h0 : Heap) (n0 : Nat) (Z0 : n0 ≤ h0.size) (hix4 : ¬ i4 < 0 ∧ i4 < (4 : Int32)) (hr200 : U9.getD i4.toNatClampNeg (.double (0 : UInt64)) = .double y9) (hv2 : (p0 &&& (3 : Int32)) = (0 : Int32)) (hv9 : (((p0.toUInt32 >>> ((2 : Int32) &&& 31).toUInt32).toInt32) &&& (3 : Int32)) = i1) (hv16 : (((p0.toUInt32 >>> ((4 : Int32) &&& 31).toUInt32).toInt32) &&& (3 : Int32)) = i2) (hv24 : (((p0.toUInt32 >>> ((6 : Int32) &&& 31).toUInt32).toInt32) &&& (3 : Int32)) = i3) (hv32 : (((p0.toUInt32 >>> ((8 : Int32) &&& 31).toUInt32).toInt32) &&& (3 : Int32)) = i4) (hd115 : (cmpValue (FP.dcmp (0 : UInt64) (0 : UInt64)) .l) = (0 : Int32)) (hd124 : (cmpValue (FP.dcmp (0 : UInt64) (0 : UInt64)) .l) = (0 : Int32)) (hd133 : (cmpValue (FP.dcmp (0 : UInt64) (0 : UInt64)) .l) = (0 : Int32)) (hd142 : (cmpValue (FP.dcmp (0 : UInt64) (0 : UInt64)) .l) = (0 : Int32)) (hix_160 : ¬ i4 < 0 ∧ i4 < (4 : Int32)) (hrl_160 : ([(.int (0 : Int32)), (.int (0 : Int32)), (.int (0 : Int32)), (.int (0 : Int32))] : List Value).getD i4.toNatClampNeg (.int (0 : Int32)) = .int (0 : Int32)) (hrv_160 : ([(.double (0 : UInt64)), (.double (0 : UInt64)), (.double (0 : UInt64)), (.double (0 : UInt64))] : List Value).getD i4.toNatClampNeg (.double (0 : UInt64)) = .double (0 : UInt64)) (hvl_160 : i4.toNatClampNeg < ([(.double (0 : UInt64)), (.double (0 : UInt64)), (.double (0 : UInt64)), (.double (0 : UInt64))] : List Value).length) (hll_160 : i4.toNatClampNeg < ([(.int (0 : Int32)), (.int (0 : Int32)), (.int (0 : Int32)), (.int (0 : Int32))] : List Value).length) (hls_160 : (([(.int (0 : Int32)), (.int (0 : Int32)), (.int (0 : Int32)), (.int (0 : Int32))] : List Value).set i4.toNatClampNeg (.int (1 : Int32))) = M9) (hvs_160 : (([(.double (0 : UInt64)), (.double (0 : UInt64)), (.double (0 : UInt64)), (.double (0 : UInt64))] : List Value).set i4.toNatClampNeg (.double y9)) = U9) (nn41_160 : Jvm.Free.Fl.NoNaN64 (FP.dadd (0 : UInt64) (FP.i2d p4))) (hq41_160 : (FP.dadd (0 : UInt64) (FP.i2d p4)) = y9) (hd204 : (cmpValue (FP.dcmp y9 (FP.i2d p4)) .l) = (0 : Int32)) (hix_225 : ¬ (0 : Int32) < 0 ∧ (0 : Int32) < (4 : Int32)) (hrd_225 : ¬ ((0 : Int32) = i4) → U9.getD (0 : Int32).toNatClampNeg (.double (0 : UInt64)) = .double (0 : UInt64)) (hd9_225 : (cmpValue (FP.dcmp (0 : UInt64) (0 : UInt64)) .l) = (0 : Int32)) (hix_236 : ¬ (1 : Int32) < 0 ∧ (1 : Int32) < (4 : Int32)) (hrd_236 : ¬ ((1 : Int32) = i4) → U9.getD (1 : Int32).toNatClampNeg (.double (0 : UInt64)) = .double (0 : UInt64)) (hd9_236 : (cmpValue (FP.dcmp (0 : UInt64) (0 : UInt64)) .l) = (0 : Int32)) (hix_247 : ¬ (2 : Int32) < 0 ∧ (2 : Int32) < (4 : Int32)) (hrd_247 : ¬ ((2 : Int32) = i4) → U9.getD (2 : Int32).toNatClampNeg (.double (0 : UInt64)) = .double (0 : UInt64)) (hd9_247 : (cmpValue (FP.dcmp (0 : UInt64) (0 : UInt64)) .l) = (0 : Int32)) (hix_258 : ¬ (3 : Int32) < 0 ∧ (3 : Int32) < (4 : Int32)) (hrd_258 : ¬ ((3 : Int32) = i4) → U9.getD (3 : Int32).toNatClampNeg (.double (0 : UInt64)) = .double (0 : UInt64)) (hd9_258 : (cmpValue (FP.dcmp (0 : UInt64) (0 : UInt64)) .l) = (0 : Int32)) :
    MetFree l x (head1 (Jvm.Cond.code x code maxLocals ret :: ws) room_1) (fun a U => a = #[(.int p0), (.int p1), (.int p2), (.int p3), (.int p4)] ∧ Z.Warmed39 U.vm ∧ U.heap = h0) (fun _ _ _ _ _ => True) (fun _ U o U' => ∃ v L, o = .returned v ∧ Q0 n0 v U'.heap L ∧ FrameEnd U o U' L room_1.cells room_1.slots) := by
  refine MetFree.of_bodySF (plainFor_of_name pn_com_example_leeway_leeway_lp_SparseColumnClearPinLaw) hisR ?_
  intro p e s m args below meth c s₁ Bd hml0 hP hK
  obtain ⟨rfl, hZ, hh⟩ := hP
  have hx := Bd.exec
  have hby := Bd.bytes
  have hml : c.maxLocals = 13 := hml0
  have hown : s.vm.findClass "com/example/leeway/leeway/lp/SparseColumnClearPinLaw" = some m.cls := findClass_of_methodNamed Bd.named
  have hnm := (name_of_methodNamed Bd.named Bd.method).1
  have X0 : Stand p l e room_1 s m #[(.int p0), (.int p1), (.int p2), (.int p3), (.int p4)] below meth c s₁ [] 0 0 := Stand.of_body Bd
  have e0 : s₁.heap = h0 := by rw [← hh, Bd.state]; rfl
  have N0 := Fr.nil n0
  have pre0 : ∀ t, Steps p.tables e below (s₁.setTop (mkF m 0 #[.val (.int p0), .val (.int p1), .val (.int p2), .val (.int p3), .val (.int p4), .unset, .unset, .unset, .unset, .unset, .unset, .unset, .unset] [])) t → Steps p.tables e below (s₁.setTop (entryFrame m #[(.int p0), (.int p1), (.int p2), (.int p3), (.int p4)] maxLocals)) t := fun t k => castTop (ef_0_IIIII m p0 p1 p2 p3 p4) k
  obtain ⟨T1, h1, X1, e1, E1, A1, D1, -, st1⟩ := newO X0 hx hZ hown (hw _ (List.mem_of_getElem? (i := 0) rfl)) (hw _ (List.mem_of_getElem? (i := 1) rfl)) (hw _ (List.mem_of_getElem? (i := 2) rfl)) e0 (g := (mkF m 35 #[.val (.int p0), .val (.int p1), .val (.int p2), .val (.int p3), .val (.int p4), .val (.int (0 : Int32)), .val (.int i1), .val (.int i2), .val (.int i3), .val (.int i4), .unset, .unset, .unset] [])) rfl (hb hby at_35) (by decide) (by decide)
  obtain ⟨b1, g1⟩ : ∃ z, z = h0.size := ⟨_, rfl⟩
  rw [← g1] at A1 D1 st1
  have g_b1 : n0 ≤ b1 := Nat.le_trans Z0 (Nat.le_of_eq g1.symm)
  have sz_b1 : h0.size ≤ b1 := Nat.le_trans (Keep.refl h0 []).1 (Nat.le_of_eq g1.symm)
  have K1 : Keep h0 h1 [] := (Keep.refl h0 []).ext E1
  have Zs1 := Nat.le_trans Z0 E1.1
  have F1_values : Fld Z h1 b1 "com/example/leeway/leeway/lp/SparseColumn" "values" "[D" .null := D1 (Or.inr (hw _ (List.mem_of_getElem? (i := 11) rfl))) (ty := (.array .double)) (by decide)
  have F1_listed : Fld Z h1 b1 "com/example/leeway/leeway/lp/SparseColumn" "listed" "[Z" .null := D1 (Or.inr (hw _ (List.mem_of_getElem? (i := 14) rfl))) (ty := (.array .boolean)) (by decide)
  have F1_rows : Fld Z h1 b1 "com/example/leeway/leeway/lp/SparseColumn" "rows" "[I" .null := D1 (Or.inr (hw _ (List.mem_of_getElem? (i := 17) rfl))) (ty := (.array .int)) (by decide)
  have F1_count : Fld Z h1 b1 "com/example/leeway/leeway/lp/SparseColumn" "count" "I" (.int (0 : Int32)) := D1 (Or.inl (hw _ (List.mem_of_getElem? (i := 24) rfl))) (ty := .int) (by decide)
  obtain ⟨_, _, ⟨T2, L2, k2, n2⟩, -, X2, ⟨Lc2, hQ2, l2, y2, z2⟩, st2⟩ := X1.specialBack hx (y := (⟨"com/example/leeway/leeway/lp/SparseColumn", "<init>", "(I)V"⟩ : MethodName)) rfl hown (mvT hZ (hw _ (List.mem_of_getElem? (i := 3) rfl))) (mvT hZ (hw _ (List.mem_of_getElem? (i := 4) rfl))) (mvT hZ (hw _ (List.mem_of_getElem? (i := 5) rfl))) (by decide) (backOf (W := 1) (sci l Z a0 hw [] b1 h1 n0 Zs1 g_b1 A1 F1_values F1_listed F1_rows F1_count) hZ (hw _ (List.mem_of_getElem? (i := 5) rfl)) (hw _ (List.mem_of_getElem? (i := 2) rfl)) (by decide) (by decide)) (g := (mkF m 40 #[.val (.int p0), .val (.int p1), .val (.int p2), .val (.int p3), .val (.int p4), .val (.int (0 : Int32)), .val (.int i1), .val (.int i2), .val (.int i3), .val (.int i4), .unset, .unset, .unset] [(.int (4 : Int32)), (.ref b1), (.ref b1)])) rfl (by rw [hml]; rfl) (Steps.refl _) (a := b1) (argsL := [(.int (4 : Int32))]) (rest := [(.ref b1)]) (lenOf pd_0 rfl) rfl (by show 2 * 0 + _ ≤ _; exact Nat.le_of_eq rfl) (hb hby at_40) (fun _ _ => ⟨rfl, e1, (by decide : 1 + 3 ≤ _), (by decide : 4 + 12 ≤ _)⟩)
  dsimp only [Pt.U, Pt.locs, Pt.cells, Pt.slots] at X2 l2 y2 z2 st2 hQ2
  subst l2 y2 z2
  obtain ⟨b2_2, b15_2, b30_2, k2_2, k15_2, k30_2, rfl, N2q, K2q, r3, r4, r5, r6, r7, r8, f9, f10, f11, f12, f13, f14, f15, f16⟩ := hQ2
  have N2 := Fr.app N0 N2q
  have ne_b1_b2_2 : b1 ≠ b2_2 := Nat.ne_of_lt (Nat.lt_of_lt_of_le A1.lt r3)
  have g_b2_2 : n0 ≤ b2_2 := Nat.le_trans Zs1 r3
  have sz_b2_2 : h0.size ≤ b2_2 := Nat.le_trans K1.1 r3
  have ne_b1_b15_2 : b1 ≠ b15_2 := Nat.ne_of_lt (Nat.lt_of_lt_of_le A1.lt r4)
  have g_b15_2 : n0 ≤ b15_2 := Nat.le_trans Zs1 r4
  have sz_b15_2 : h0.size ≤ b15_2 := Nat.le_trans K1.1 r4
  have ne_b1_b30_2 : b1 ≠ b30_2 := Nat.ne_of_lt (Nat.lt_of_lt_of_le A1.lt r5)
  have g_b30_2 : n0 ≤ b30_2 := Nat.le_trans Zs1 r5
  have sz_b30_2 : h0.size ≤ b30_2 := Nat.le_trans K1.1 r5
  have f17 := A1.keep K2q
  have K2 : Keep h0 T2.heap [] := K1.trans K2q (own_allS (Or.inr sz_b1) own_all0)
  have Zs2 := Nat.le_trans Zs1 K2q.1
  obtain ⟨cq18, kq18, q18a, q18b, q18c⟩ := isOf hZ rfl f9
  obtain ⟨_, _, ⟨T18, L18, k18, n18⟩, -, X18, ⟨Lc18, hQ18, l18, y18, z18⟩, st18⟩ := X2.virtualBack hx (y := (⟨"com/example/leeway/leeway/lp/SparseColumn", "clear", "()V"⟩ : MethodName)) (z := (⟨"com/example/leeway/leeway/lp/SparseColumn", "clear", "()V"⟩ : MethodName)) hown (mvT hZ (hw _ (List.mem_of_getElem? (i := 18) rfl))) (mvT hZ (hw _ (List.mem_of_getElem? (i := 19) rfl))) (notFace_of_selects (args := #[]) (mvT hZ (hw _ (List.mem_of_getElem? (i := 21) rfl)))) (mvT hZ (hw _ (List.mem_of_getElem? (i := 21) rfl))) (mvT hZ (hw _ (List.mem_of_getElem? (i := 20) rfl))) (by decide) (backOf (W := 0) (clr0 l Z a0 hw [] b1 b2_2 b15_2 b30_2 k2_2 k15_2 k30_2 (0 : Int32) (0 : Int32) (0 : Int32) (0 : Int32) ([(.double (0 : UInt64)), (.double (0 : UInt64)), (.double (0 : UInt64)), (.double (0 : UInt64))] : List Value) ([(.int (0 : Int32)), (.int (0 : Int32)), (.int (0 : Int32)), (.int (0 : Int32))] : List Value) T2.heap n0 Zs2 f10 f11 f12 f13 f9 f14 f15 f16 g_b1 g_b2_2 g_b15_2 g_b30_2 ne_b1_b2_2 ne_b1_b15_2 ne_b1_b30_2 r6 r7 r8) hZ (hw _ (List.mem_of_getElem? (i := 22) rfl)) (hw _ (List.mem_of_getElem? (i := 2) rfl)) (by decide) (by decide)) q18a q18c (g := (mkF m 92 #[.val (.int p0), .val (.int p1), .val (.int p2), .val (.int p3), .val (.int p4), .val (.int (0 : Int32)), .val (.int i1), .val (.int i2), .val (.int i3), .val (.int i4), .val (.ref b1), .unset, .unset] [(.ref b1)])) rfl (by rw [hml]; rfl) (Steps.refl _) (argsL := []) (rest := []) (lenOf pd_1 rfl) rfl (by show 2 * 0 + _ ≤ _; exact Nat.le_of_eq rfl) (hb hby at_92) (fun _ _ => ⟨rfl, rfl, (by decide : 4 + 0 ≤ _), (by decide : 16 + 0 ≤ _)⟩)
  dsimp only [Pt.U, Pt.locs, Pt.cells, Pt.slots] at X18 l18 y18 z18 st18 hQ18
  subst l18 y18 z18
  obtain ⟨rfl, N18q, K18q, f19, f20, f21, f22, f23, f24, f25, f26⟩ := hQ18
  have N18 := Fr.app N2 N18q
  have f27 := f9.keep K18q
  have f28 := f14.keep K18q (own_niS (Ne.symm ne_b1_b2_2) own_ni0)
  have f29 := f15.keep K18q (own_niS (Ne.symm ne_b1_b15_2) own_ni0)
  have f30 := f16.keep K18q (own_niS (Ne.symm ne_b1_b30_2) own_ni0)
  have K18 : Keep h0 T18.heap [] := K2.trans K18q (own_allS (Or.inr sz_b1) own_all0)
  have Zs18 := Nat.le_trans Zs2 K18q.1
  obtain ⟨cq31, kq31, q31a, q31b, q31c⟩ := isOf hZ rfl f19
  obtain ⟨_, _, ⟨T31, L31, k31, n31⟩, -, X31, ⟨Lc31, hQ31, l31, y31, z31⟩, st31⟩ := X18.virtualBack hx (y := (⟨"com/example/leeway/leeway/lp/SparseColumn", "values", "()[D"⟩ : MethodName)) (z := (⟨"com/example/leeway/leeway/lp/SparseColumn", "values", "()[D"⟩ : MethodName)) hown (mvT hZ (hw _ (List.mem_of_getElem? (i := 25) rfl))) (mvT hZ (hw _ (List.mem_of_getElem? (i := 26) rfl))) (notFace_of_selects (args := #[]) (mvT hZ (hw _ (List.mem_of_getElem? (i := 28) rfl)))) (mvT hZ (hw _ (List.mem_of_getElem? (i := 28) rfl))) (mvT hZ (hw _ (List.mem_of_getElem? (i := 27) rfl))) (by decide) (backOf (W := 0) (gv l Z a0 hw [] b1 b2_2 b15_2 b30_2 k2_2 k15_2 k30_2 (0 : Int32) (0 : Int32) (0 : Int32) (0 : Int32) ([(.double (0 : UInt64)), (.double (0 : UInt64)), (.double (0 : UInt64)), (.double (0 : UInt64))] : List Value) ([(.int (0 : Int32)), (.int (0 : Int32)), (.int (0 : Int32)), (.int (0 : Int32))] : List Value) (0 : Int32) T18.heap n0 Zs18 f20 f21 f22 f23 f19 f24 f25 f26) hZ (hw _ (List.mem_of_getElem? (i := 29) rfl)) (hw _ (List.mem_of_getElem? (i := 2) rfl)) (by decide) (by decide)) q31a q31c (g := (mkF m 97 #[.val (.int p0), .val (.int p1), .val (.int p2), .val (.int p3), .val (.int p4), .val (.int (0 : Int32)), .val (.int i1), .val (.int i2), .val (.int i3), .val (.int i4), .val (.ref b1), .unset, .unset] [(.ref b1)])) rfl (by rw [hml]; rfl) (Steps.refl _) (argsL := []) (rest := []) (lenOf pd_2 rfl) rfl (by show 2 * 0 + _ ≤ _; exact Nat.le_of_eq rfl) (hb hby at_97) (fun _ _ => ⟨rfl, rfl, (by decide : 4 + 0 ≤ _), (by decide : 16 + 0 ≤ _)⟩)
  dsimp only [Pt.U, Pt.locs, Pt.cells, Pt.slots] at X31 l31 y31 z31 st31 hQ31
  subst l31 y31 z31
  obtain ⟨rfl, N31q, eh31⟩ := hQ31
  have N31 := Fr.app N18 N31q
  have e31 : T31.heap = T18.heap := eh31
  obtain ⟨cq32, kq32, q32a, q32b, q32c⟩ := isOf hZ e31 f19
  obtain ⟨_, _, ⟨T32, L32, k32, n32⟩, -, X32, ⟨Lc32, hQ32, l32, y32, z32⟩, st32⟩ := X31.virtualBack hx (y := (⟨"com/example/leeway/leeway/lp/SparseColumn", "count", "()I"⟩ : MethodName)) (z := (⟨"com/example/leeway/leeway/lp/SparseColumn", "count", "()I"⟩ : MethodName)) hown (mvT hZ (hw _ (List.mem_of_getElem? (i := 30) rfl))) (mvT hZ (hw _ (List.mem_of_getElem? (i := 31) rfl))) (notFace_of_selects (args := #[]) (mvT hZ (hw _ (List.mem_of_getElem? (i := 33) rfl)))) (mvT hZ (hw _ (List.mem_of_getElem? (i := 33) rfl))) (mvT hZ (hw _ (List.mem_of_getElem? (i := 32) rfl))) (by decide) (backOf (W := 0) (gc l Z a0 hw [] b1 b2_2 b15_2 b30_2 k2_2 k15_2 k30_2 (0 : Int32) (0 : Int32) (0 : Int32) (0 : Int32) ([(.double (0 : UInt64)), (.double (0 : UInt64)), (.double (0 : UInt64)), (.double (0 : UInt64))] : List Value) ([(.int (0 : Int32)), (.int (0 : Int32)), (.int (0 : Int32)), (.int (0 : Int32))] : List Value) (0 : Int32) T18.heap n0 Zs18 f20 f21 f22 f23 f19 f24 f25 f26) hZ (hw _ (List.mem_of_getElem? (i := 34) rfl)) (hw _ (List.mem_of_getElem? (i := 2) rfl)) (by decide) (by decide)) q32a q32c (g := (mkF m 104 #[.val (.int p0), .val (.int p1), .val (.int p2), .val (.int p3), .val (.int p4), .val (.int (0 : Int32)), .val (.int i1), .val (.int i2), .val (.int i3), .val (.int i4), .val (.ref b1), .val (.ref b2_2), .unset] [(.ref b1)])) rfl (by rw [hml]; rfl) (Steps.refl _) (argsL := []) (rest := []) (lenOf pd_3 rfl) rfl (by show 2 * 0 + _ ≤ _; exact Nat.le_of_eq rfl) (hb hby at_104) (fun _ _ => ⟨rfl, e31, (by decide : 4 + 0 ≤ _), (by decide : 16 + 0 ≤ _)⟩)
  dsimp only [Pt.U, Pt.locs, Pt.cells, Pt.slots] at X32 l32 y32 z32 st32 hQ32
  subst l32 y32 z32
  obtain ⟨rfl, N32q, eh32⟩ := hQ32
  have N32 := Fr.app N31 N32q
  have e32 : T32.heap = T18.heap := eh32
  obtain ⟨cq33, Arq33, -, Sq33, -, Hq33, -⟩ := id f24
  obtain ⟨cq34, Arq34, -, Sq34, -, Hq34, -⟩ := id f24
  obtain ⟨cq35, Arq35, -, Sq35, -, Hq35, -⟩ := id f24
  obtain ⟨cq36, Arq36, -, Sq36, -, Hq36, -⟩ := id f24
  obtain ⟨cq37, kq37, q37a, q37b, q37c⟩ := isOf hZ e32 f19
  obtain ⟨_, _, ⟨T37, L37, k37, n37⟩, -, X37, ⟨Lc37, hQ37, l37, y37, z37⟩, st37⟩ := X32.virtualBack hx (y := (⟨"com/example/leeway/leeway/lp/SparseColumn", "add", "(ID)V"⟩ : MethodName)) (z := (⟨"com/example/leeway/leeway/lp/SparseColumn", "add", "(ID)V"⟩ : MethodName)) hown (mvT hZ (hw _ (List.mem_of_getElem? (i := 35) rfl))) (mvT hZ (hw _ (List.mem_of_getElem? (i := 36) rfl))) (notFace_of_selects (args := #[]) (mvT hZ (hw _ (List.mem_of_getElem? (i := 38) rfl)))) (mvT hZ (hw _ (List.mem_of_getElem? (i := 38) rfl))) (mvT hZ (hw _ (List.mem_of_getElem? (i := 37) rfl))) (by decide) (backOf (W := 0) (addN0 l Z a0 hw [] b1 b2_2 b15_2 b30_2 k2_2 k15_2 k30_2 (0 : Int32) (0 : Int32) (0 : Int32) (0 : Int32) ([(.double (0 : UInt64)), (.double (0 : UInt64)), (.double (0 : UInt64)), (.double (0 : UInt64))] : List Value) ([(.int (0 : Int32)), (.int (0 : Int32)), (.int (0 : Int32)), (.int (0 : Int32))] : List Value) U9 M9 i4 (FP.i2d p4) (0 : UInt64) y9 T18.heap n0 Zs18 f20 f21 f22 f23 f19 f24 f25 f26 g_b1 g_b2_2 g_b15_2 g_b30_2 ne_b1_b2_2 ne_b1_b15_2 ne_b1_b30_2 r6 r7 r8 hix_160 hrl_160 hrv_160 hvl_160 hll_160 hls_160 hvs_160 nn41_160 hq41_160) hZ (hw _ (List.mem_of_getElem? (i := 39) rfl)) (hw _ (List.mem_of_getElem? (i := 2) rfl)) (by decide) (by decide)) q37a q37c (g := (mkF m 160 #[.val (.int p0), .val (.int p1), .val (.int p2), .val (.int p3), .val (.int p4), .val (.int (0 : Int32)), .val (.int i1), .val (.int i2), .val (.int i3), .val (.int i4), .val (.ref b1), .val (.ref b2_2), .val (.int (1 : Int32))] [(.double (FP.i2d p4)), (.int i4), (.ref b1)])) rfl (by rw [hml]; rfl) (Steps.refl _) (argsL := [(.int i4), (.double (FP.i2d p4))]) (rest := []) (lenOf pd_4 rfl) rfl (by show 2 * 0 + _ ≤ _; exact Nat.le_of_eq rfl) (hb hby at_160) (fun _ _ => ⟨rfl, e32, (by decide : 4 + 0 ≤ _), (by decide : 16 + 0 ≤ _)⟩)
  dsimp only [Pt.U, Pt.locs, Pt.cells, Pt.slots] at X37 l37 y37 z37 st37 hQ37
  subst l37 y37 z37
  obtain ⟨rfl, N37q, K37q, f38, f39, f40, f41, f42, f43, f44, f45⟩ := hQ37
  have N37 := Fr.app N32 N37q
  have f46 := f19.keep K37q
  have K37 : Keep h0 T37.heap [] := K18.trans K37q (own_allS (Or.inr sz_b15_2) (own_allS (Or.inr sz_b1) (own_allS (Or.inr sz_b30_2) (own_allS (Or.inr sz_b2_2) own_all0))))
  have Zs37 := Nat.le_trans Zs18 K37q.1
  obtain ⟨cq47, kq47, q47a, q47b, q47c⟩ := isOf hZ rfl f38
  obtain ⟨_, _, ⟨T47, L47, k47, n47⟩, -, X47, ⟨Lc47, hQ47, l47, y47, z47⟩, st47⟩ := X37.virtualBack hx (y := (⟨"com/example/leeway/leeway/lp/SparseColumn", "values", "()[D"⟩ : MethodName)) (z := (⟨"com/example/leeway/leeway/lp/SparseColumn", "values", "()[D"⟩ : MethodName)) hown (mvT hZ (hw _ (List.mem_of_getElem? (i := 25) rfl))) (mvT hZ (hw _ (List.mem_of_getElem? (i := 26) rfl))) (notFace_of_selects (args := #[]) (mvT hZ (hw _ (List.mem_of_getElem? (i := 28) rfl)))) (mvT hZ (hw _ (List.mem_of_getElem? (i := 28) rfl))) (mvT hZ (hw _ (List.mem_of_getElem? (i := 27) rfl))) (by decide) (backOf (W := 0) (gv l Z a0 hw [] b1 b2_2 b15_2 b30_2 k2_2 k15_2 k30_2 i4 (0 : Int32) (0 : Int32) (0 : Int32) U9 M9 (1 : Int32) T37.heap n0 Zs37 f39 f40 f41 f42 f38 f43 f44 f45) hZ (hw _ (List.mem_of_getElem? (i := 29) rfl)) (hw _ (List.mem_of_getElem? (i := 2) rfl)) (by decide) (by decide)) q47a q47c (g := (mkF m 165 #[.val (.int p0), .val (.int p1), .val (.int p2), .val (.int p3), .val (.int p4), .val (.int (0 : Int32)), .val (.int i1), .val (.int i2), .val (.int i3), .val (.int i4), .val (.ref b1), .val (.ref b2_2), .val (.int (1 : Int32))] [(.ref b1)])) rfl (by rw [hml]; rfl) (Steps.refl _) (argsL := []) (rest := []) (lenOf pd_2 rfl) rfl (by show 2 * 0 + _ ≤ _; exact Nat.le_of_eq rfl) (hb hby at_165) (fun _ _ => ⟨rfl, rfl, (by decide : 4 + 0 ≤ _), (by decide : 16 + 0 ≤ _)⟩)
  dsimp only [Pt.U, Pt.locs, Pt.cells, Pt.slots] at X47 l47 y47 z47 st47 hQ47
  subst l47 y47 z47
  obtain ⟨rfl, N47q, eh47⟩ := hQ47
  have N47 := Fr.app N37 N47q
  have e47 : T47.heap = T37.heap := eh47
  obtain ⟨cq48, kq48, q48a, q48b, q48c⟩ := isOf hZ e47 f38
  obtain ⟨_, _, ⟨T48, L48, k48, n48⟩, -, X48, ⟨Lc48, hQ48, l48, y48, z48⟩, st48⟩ := X47.virtualBack hx (y := (⟨"com/example/leeway/leeway/lp/SparseColumn", "count", "()I"⟩ : MethodName)) (z := (⟨"com/example/leeway/leeway/lp/SparseColumn", "count", "()I"⟩ : MethodName)) hown (mvT hZ (hw _ (List.mem_of_getElem? (i := 30) rfl))) (mvT hZ (hw _ (List.mem_of_getElem? (i := 31) rfl))) (notFace_of_selects (args := #[]) (mvT hZ (hw _ (List.mem_of_getElem? (i := 33) rfl)))) (mvT hZ (hw _ (List.mem_of_getElem? (i := 33) rfl))) (mvT hZ (hw _ (List.mem_of_getElem? (i := 32) rfl))) (by decide) (backOf (W := 0) (gc l Z a0 hw [] b1 b2_2 b15_2 b30_2 k2_2 k15_2 k30_2 i4 (0 : Int32) (0 : Int32) (0 : Int32) U9 M9 (1 : Int32) T37.heap n0 Zs37 f39 f40 f41 f42 f38 f43 f44 f45) hZ (hw _ (List.mem_of_getElem? (i := 34) rfl)) (hw _ (List.mem_of_getElem? (i := 2) rfl)) (by decide) (by decide)) q48a q48c (g := (mkF m 177 #[.val (.int p0), .val (.int p1), .val (.int p2), .val (.int p3), .val (.int p4), .val (.int (0 : Int32)), .val (.int i1), .val (.int i2), .val (.int i3), .val (.int i4), .val (.ref b1), .val (.ref b2_2), .val (.int (1 : Int32))] [(.ref b1)])) rfl (by rw [hml]; rfl) (Steps.refl _) (argsL := []) (rest := []) (lenOf pd_3 rfl) rfl (by show 2 * 0 + _ ≤ _; exact Nat.le_of_eq rfl) (hb hby at_177) (fun _ _ => ⟨rfl, e47, (by decide : 4 + 0 ≤ _), (by decide : 16 + 0 ≤ _)⟩)
  dsimp only [Pt.U, Pt.locs, Pt.cells, Pt.slots] at X48 l48 y48 z48 st48 hQ48
  subst l48 y48 z48
  obtain ⟨rfl, N48q, eh48⟩ := hQ48
  have N48 := Fr.app N47 N48q
  have e48 : T48.heap = T37.heap := eh48
  obtain ⟨cq49, kq49, q49a, q49b, q49c⟩ := isOf hZ e48 f38
  obtain ⟨_, _, ⟨T49, L49, k49, n49⟩, -, X49, ⟨Lc49, hQ49, l49, y49, z49⟩, st49⟩ := X48.virtualBack hx (y := (⟨"com/example/leeway/leeway/lp/SparseColumn", "rows", "()[I"⟩ : MethodName)) (z := (⟨"com/example/leeway/leeway/lp/SparseColumn", "rows", "()[I"⟩ : MethodName)) hown (mvT hZ (hw _ (List.mem_of_getElem? (i := 40) rfl))) (mvT hZ (hw _ (List.mem_of_getElem? (i := 41) rfl))) (notFace_of_selects (args := #[]) (mvT hZ (hw _ (List.mem_of_getElem? (i := 43) rfl)))) (mvT hZ (hw _ (List.mem_of_getElem? (i := 43) rfl))) (mvT hZ (hw _ (List.mem_of_getElem? (i := 42) rfl))) (by decide) (backOf (W := 0) (gr l Z a0 hw [] b1 b2_2 b15_2 b30_2 k2_2 k15_2 k30_2 i4 (0 : Int32) (0 : Int32) (0 : Int32) U9 M9 (1 : Int32) T37.heap n0 Zs37 f39 f40 f41 f42 f38 f43 f44 f45) hZ (hw _ (List.mem_of_getElem? (i := 44) rfl)) (hw _ (List.mem_of_getElem? (i := 2) rfl)) (by decide) (by decide)) q49a q49c (g := (mkF m 186 #[.val (.int p0), .val (.int p1), .val (.int p2), .val (.int p3), .val (.int p4), .val (.int (0 : Int32)), .val (.int i1), .val (.int i2), .val (.int i3), .val (.int i4), .val (.ref b1), .val (.ref b2_2), .val (.int (1 : Int32))] [(.ref b1)])) rfl (by rw [hml]; rfl) (Steps.refl _) (argsL := []) (rest := []) (lenOf pd_5 rfl) rfl (by show 2 * 0 + _ ≤ _; exact Nat.le_of_eq rfl) (hb hby at_186) (fun _ _ => ⟨rfl, e48, (by decide : 4 + 0 ≤ _), (by decide : 16 + 0 ≤ _)⟩)
  dsimp only [Pt.U, Pt.locs, Pt.cells, Pt.slots] at X49 l49 y49 z49 st49 hQ49
  subst l49 y49 z49
  obtain ⟨rfl, N49q, eh49⟩ := hQ49
  have N49 := Fr.app N48 N49q
  have e49 : T49.heap = T37.heap := eh49
  obtain ⟨cq50, Arq50, -, Sq50, -, Hq50, -⟩ := id f45
  obtain ⟨cq51, Arq51, -, Sq51, -, Hq51, -⟩ := id f43
  obtain ⟨_, _, ⟨T52, L52, k52, n52⟩, -, X52, ⟨Lc52, hQ52, l52, y52, z52⟩, st52⟩ := Jvm.LawKit.callS X49 hx (y := (⟨"com/example/leeway/leeway/lp/SparseColumnClearPinLaw", "zeroUnless", "([DII)Z"⟩ : MethodName)) hown (mvT hZ (hw _ (List.mem_of_getElem? (i := 45) rfl))) (mvT hZ (hw _ (List.mem_of_getElem? (i := 46) rfl))) (mvT hZ (hw _ (List.mem_of_getElem? (i := 47) rfl))) (mvT hZ (hw _ (List.mem_of_getElem? (i := 48) rfl))) (by decide) (backOf (W := 0) (zu l Z a0 hw [] b2_2 k2_2 U9 (0 : Int32) i4 T37.heap n0 Zs37 f43 hix_225 hrd_225 hd9_225) hZ (hw _ (List.mem_of_getElem? (i := 48) rfl)) (hw _ (List.mem_of_getElem? (i := 47) rfl)) (by decide) (by decide)) (g := (mkF m 225 #[.val (.int p0), .val (.int p1), .val (.int p2), .val (.int p3), .val (.int p4), .val (.int (0 : Int32)), .val (.int i1), .val (.int i2), .val (.int i3), .val (.int i4), .val (.ref b1), .val (.ref b2_2), .val (.int (1 : Int32))] [(.int i4), (.int (0 : Int32)), (.ref b2_2)])) rfl (by rw [hml]; rfl) (argsL := [(.ref b2_2), (.int (0 : Int32)), (.int i4)]) (rest := []) (lenOf pd_6 rfl) rfl (by show 2 * 0 + _ ≤ _; exact Nat.le_of_eq rfl) (hb hby at_225) (fun _ _ => ⟨rfl, e49, (by decide : 4 + 0 ≤ _), (by decide : 16 + 0 ≤ _)⟩)
  dsimp only [Pt.U, Pt.locs, Pt.cells, Pt.slots] at X52 l52 y52 z52 st52 hQ52
  subst l52 y52 z52
  obtain ⟨rfl, N52q, eh52⟩ := hQ52
  have N52 := Fr.app N49 N52q
  have e52 : T52.heap = T37.heap := eh52
  obtain ⟨_, _, ⟨T53, L53, k53, n53⟩, -, X53, ⟨Lc53, hQ53, l53, y53, z53⟩, st53⟩ := Jvm.LawKit.callS X52 hx (y := (⟨"com/example/leeway/leeway/lp/SparseColumnClearPinLaw", "zeroUnless", "([DII)Z"⟩ : MethodName)) hown (mvT hZ (hw _ (List.mem_of_getElem? (i := 45) rfl))) (mvT hZ (hw _ (List.mem_of_getElem? (i := 46) rfl))) (mvT hZ (hw _ (List.mem_of_getElem? (i := 47) rfl))) (mvT hZ (hw _ (List.mem_of_getElem? (i := 48) rfl))) (by decide) (backOf (W := 0) (zu l Z a0 hw [] b2_2 k2_2 U9 (1 : Int32) i4 T37.heap n0 Zs37 f43 hix_236 hrd_236 hd9_236) hZ (hw _ (List.mem_of_getElem? (i := 48) rfl)) (hw _ (List.mem_of_getElem? (i := 47) rfl)) (by decide) (by decide)) (g := (mkF m 236 #[.val (.int p0), .val (.int p1), .val (.int p2), .val (.int p3), .val (.int p4), .val (.int (0 : Int32)), .val (.int i1), .val (.int i2), .val (.int i3), .val (.int i4), .val (.ref b1), .val (.ref b2_2), .val (.int (1 : Int32))] [(.int i4), (.int (1 : Int32)), (.ref b2_2)])) rfl (by rw [hml]; rfl) (argsL := [(.ref b2_2), (.int (1 : Int32)), (.int i4)]) (rest := []) (lenOf pd_6 rfl) rfl (by show 2 * 0 + _ ≤ _; exact Nat.le_of_eq rfl) (hb hby at_236) (fun _ _ => ⟨rfl, e52, (by decide : 4 + 0 ≤ _), (by decide : 16 + 0 ≤ _)⟩)
  dsimp only [Pt.U, Pt.locs, Pt.cells, Pt.slots] at X53 l53 y53 z53 st53 hQ53
  subst l53 y53 z53
  obtain ⟨rfl, N53q, eh53⟩ := hQ53
  have N53 := Fr.app N52 N53q
  have e53 : T53.heap = T37.heap := eh53
  obtain ⟨_, _, ⟨T54, L54, k54, n54⟩, -, X54, ⟨Lc54, hQ54, l54, y54, z54⟩, st54⟩ := Jvm.LawKit.callS X53 hx (y := (⟨"com/example/leeway/leeway/lp/SparseColumnClearPinLaw", "zeroUnless", "([DII)Z"⟩ : MethodName)) hown (mvT hZ (hw _ (List.mem_of_getElem? (i := 45) rfl))) (mvT hZ (hw _ (List.mem_of_getElem? (i := 46) rfl))) (mvT hZ (hw _ (List.mem_of_getElem? (i := 47) rfl))) (mvT hZ (hw _ (List.mem_of_getElem? (i := 48) rfl))) (by decide) (backOf (W := 0) (zu l Z a0 hw [] b2_2 k2_2 U9 (2 : Int32) i4 T37.heap n0 Zs37 f43 hix_247 hrd_247 hd9_247) hZ (hw _ (List.mem_of_getElem? (i := 48) rfl)) (hw _ (List.mem_of_getElem? (i := 47) rfl)) (by decide) (by decide)) (g := (mkF m 247 #[.val (.int p0), .val (.int p1), .val (.int p2), .val (.int p3), .val (.int p4), .val (.int (0 : Int32)), .val (.int i1), .val (.int i2), .val (.int i3), .val (.int i4), .val (.ref b1), .val (.ref b2_2), .val (.int (1 : Int32))] [(.int i4), (.int (2 : Int32)), (.ref b2_2)])) rfl (by rw [hml]; rfl) (argsL := [(.ref b2_2), (.int (2 : Int32)), (.int i4)]) (rest := []) (lenOf pd_6 rfl) rfl (by show 2 * 0 + _ ≤ _; exact Nat.le_of_eq rfl) (hb hby at_247) (fun _ _ => ⟨rfl, e53, (by decide : 4 + 0 ≤ _), (by decide : 16 + 0 ≤ _)⟩)
  dsimp only [Pt.U, Pt.locs, Pt.cells, Pt.slots] at X54 l54 y54 z54 st54 hQ54
  subst l54 y54 z54
  obtain ⟨rfl, N54q, eh54⟩ := hQ54
  have N54 := Fr.app N53 N54q
  have e54 : T54.heap = T37.heap := eh54
  obtain ⟨_, _, ⟨T55, L55, k55, n55⟩, -, X55, ⟨Lc55, hQ55, l55, y55, z55⟩, st55⟩ := Jvm.LawKit.callS X54 hx (y := (⟨"com/example/leeway/leeway/lp/SparseColumnClearPinLaw", "zeroUnless", "([DII)Z"⟩ : MethodName)) hown (mvT hZ (hw _ (List.mem_of_getElem? (i := 45) rfl))) (mvT hZ (hw _ (List.mem_of_getElem? (i := 46) rfl))) (mvT hZ (hw _ (List.mem_of_getElem? (i := 47) rfl))) (mvT hZ (hw _ (List.mem_of_getElem? (i := 48) rfl))) (by decide) (backOf (W := 0) (zu l Z a0 hw [] b2_2 k2_2 U9 (3 : Int32) i4 T37.heap n0 Zs37 f43 hix_258 hrd_258 hd9_258) hZ (hw _ (List.mem_of_getElem? (i := 48) rfl)) (hw _ (List.mem_of_getElem? (i := 47) rfl)) (by decide) (by decide)) (g := (mkF m 258 #[.val (.int p0), .val (.int p1), .val (.int p2), .val (.int p3), .val (.int p4), .val (.int (0 : Int32)), .val (.int i1), .val (.int i2), .val (.int i3), .val (.int i4), .val (.ref b1), .val (.ref b2_2), .val (.int (1 : Int32))] [(.int i4), (.int (3 : Int32)), (.ref b2_2)])) rfl (by rw [hml]; rfl) (argsL := [(.ref b2_2), (.int (3 : Int32)), (.int i4)]) (rest := []) (lenOf pd_6 rfl) rfl (by show 2 * 0 + _ ≤ _; exact Nat.le_of_eq rfl) (hb hby at_258) (fun _ _ => ⟨rfl, e54, (by decide : 4 + 0 ≤ _), (by decide : 16 + 0 ≤ _)⟩)
  dsimp only [Pt.U, Pt.locs, Pt.cells, Pt.slots] at X55 l55 y55 z55 st55 hQ55
  subst l55 y55 z55
  obtain ⟨rfl, N55q, eh55⟩ := hQ55
  have N55 := Fr.app N54 N55q
  have e55 : T55.heap = T37.heap := eh55
  obtain ⟨fs, hr, hrun, hended, hW, hsame⟩ := X55.leave (v := some (.int (1 : Int32))) (fun h => by rw [Bd.returns] at h; cases h)
  refine ⟨_, _, pre0 _ ?_, hrun, hended, _, _, rfl, ?_, ⟨_, rfl⟩, hW, hsame.mono (by decide) (by decide)⟩
  · show Steps p.tables e below (s₁.setTop (mkF m 0 #[.val (.int p0), .val (.int p1), .val (.int p2), .val (.int p3), .val (.int p4), .unset, .unset, .unset, .unset, .unset, .unset, .unset, .unset] [])) _
    refine XS.iloadN X0.here hx rfl (hb hby at_0) rfl ?_
    refine XS.iconst X0.here hx rfl (hb hby at_1) ?_
    refine XS.iand X0.here hx rfl (hb hby at_2) rfl ?_
    show Steps p.tables e below (s₁.setTop (mkF m 3 #[.val (.int p0), .val (.int p1), .val (.int p2), .val (.int p3), .val (.int p4), .unset, .unset, .unset, .unset, .unset, .unset, .unset, .unset] [(.int (p0 &&& (3 : Int32)))])) _
    rw [hv2]
    show Steps p.tables e below (s₁.setTop (mkF m 3 #[.val (.int p0), .val (.int p1), .val (.int p2), .val (.int p3), .val (.int p4), .unset, .unset, .unset, .unset, .unset, .unset, .unset, .unset] [(.int (0 : Int32))])) _
    refine XS.istore X0.here hx rfl (hb hby at_3) rfl (l' := #[.val (.int p0), .val (.int p1), .val (.int p2), .val (.int p3), .val (.int p4), .val (.int (0 : Int32)), .unset, .unset, .unset, .unset, .unset, .unset, .unset]) rfl ?_
    show Steps p.tables e below (s₁.setTop (mkF m 5 #[.val (.int p0), .val (.int p1), .val (.int p2), .val (.int p3), .val (.int p4), .val (.int (0 : Int32)), .unset, .unset, .unset, .unset, .unset, .unset, .unset] [])) _
    refine XS.iloadN X0.here hx rfl (hb hby at_5) rfl ?_
    refine XS.iconst X0.here hx rfl (hb hby at_6) ?_
    refine XS.iushr X0.here hx rfl (hb hby at_7) rfl ?_
    refine XS.iconst X0.here hx rfl (hb hby at_8) ?_
    refine XS.iand X0.here hx rfl (hb hby at_9) rfl ?_
    show Steps p.tables e below (s₁.setTop (mkF m 10 #[.val (.int p0), .val (.int p1), .val (.int p2), .val (.int p3), .val (.int p4), .val (.int (0 : Int32)), .unset, .unset, .unset, .unset, .unset, .unset, .unset] [(.int (((p0.toUInt32 >>> ((2 : Int32) &&& 31).toUInt32).toInt32) &&& (3 : Int32)))])) _
    rw [hv9]
    show Steps p.tables e below (s₁.setTop (mkF m 10 #[.val (.int p0), .val (.int p1), .val (.int p2), .val (.int p3), .val (.int p4), .val (.int (0 : Int32)), .unset, .unset, .unset, .unset, .unset, .unset, .unset] [(.int i1)])) _
    refine XS.istore X0.here hx rfl (hb hby at_10) rfl (l' := #[.val (.int p0), .val (.int p1), .val (.int p2), .val (.int p3), .val (.int p4), .val (.int (0 : Int32)), .val (.int i1), .unset, .unset, .unset, .unset, .unset, .unset]) rfl ?_
    refine XS.iloadN X0.here hx rfl (hb hby at_12) rfl ?_
    refine XS.iconst X0.here hx rfl (hb hby at_13) ?_
    refine XS.iushr X0.here hx rfl (hb hby at_14) rfl ?_
    refine XS.iconst X0.here hx rfl (hb hby at_15) ?_
    refine XS.iand X0.here hx rfl (hb hby at_16) rfl ?_
    show Steps p.tables e below (s₁.setTop (mkF m 17 #[.val (.int p0), .val (.int p1), .val (.int p2), .val (.int p3), .val (.int p4), .val (.int (0 : Int32)), .val (.int i1), .unset, .unset, .unset, .unset, .unset, .unset] [(.int (((p0.toUInt32 >>> ((4 : Int32) &&& 31).toUInt32).toInt32) &&& (3 : Int32)))])) _
    rw [hv16]
    show Steps p.tables e below (s₁.setTop (mkF m 17 #[.val (.int p0), .val (.int p1), .val (.int p2), .val (.int p3), .val (.int p4), .val (.int (0 : Int32)), .val (.int i1), .unset, .unset, .unset, .unset, .unset, .unset] [(.int i2)])) _
    refine XS.istore X0.here hx rfl (hb hby at_17) rfl (l' := #[.val (.int p0), .val (.int p1), .val (.int p2), .val (.int p3), .val (.int p4), .val (.int (0 : Int32)), .val (.int i1), .val (.int i2), .unset, .unset, .unset, .unset, .unset]) rfl ?_
    refine XS.iloadN X0.here hx rfl (hb hby at_19) rfl ?_
    refine XS.bipush X0.here hx rfl (hb hby at_20) ?_
    refine XS.iushr X0.here hx rfl (hb hby at_22) rfl ?_
    refine XS.iconst X0.here hx rfl (hb hby at_23) ?_
    show Steps p.tables e below (s₁.setTop (mkF m 24 #[.val (.int p0), .val (.int p1), .val (.int p2), .val (.int p3), .val (.int p4), .val (.int (0 : Int32)), .val (.int i1), .val (.int i2), .unset, .unset, .unset, .unset, .unset] [(.int (3 : Int32)), (.int ((p0.toUInt32 >>> ((6 : Int32) &&& 31).toUInt32).toInt32))])) _
    refine XS.iand X0.here hx rfl (hb hby at_24) rfl ?_
    show Steps p.tables e below (s₁.setTop (mkF m 25 #[.val (.int p0), .val (.int p1), .val (.int p2), .val (.int p3), .val (.int p4), .val (.int (0 : Int32)), .val (.int i1), .val (.int i2), .unset, .unset, .unset, .unset, .unset] [(.int (((p0.toUInt32 >>> ((6 : Int32) &&& 31).toUInt32).toInt32) &&& (3 : Int32)))])) _
    rw [hv24]
    show Steps p.tables e below (s₁.setTop (mkF m 25 #[.val (.int p0), .val (.int p1), .val (.int p2), .val (.int p3), .val (.int p4), .val (.int (0 : Int32)), .val (.int i1), .val (.int i2), .unset, .unset, .unset, .unset, .unset] [(.int i3)])) _
    refine XS.istore X0.here hx rfl (hb hby at_25) rfl (l' := #[.val (.int p0), .val (.int p1), .val (.int p2), .val (.int p3), .val (.int p4), .val (.int (0 : Int32)), .val (.int i1), .val (.int i2), .val (.int i3), .unset, .unset, .unset, .unset]) rfl ?_
    refine XS.iloadN X0.here hx rfl (hb hby at_27) rfl ?_
    refine XS.bipush X0.here hx rfl (hb hby at_28) ?_
    refine XS.iushr X0.here hx rfl (hb hby at_30) rfl ?_
    show Steps p.tables e below (s₁.setTop (mkF m 31 #[.val (.int p0), .val (.int p1), .val (.int p2), .val (.int p3), .val (.int p4), .val (.int (0 : Int32)), .val (.int i1), .val (.int i2), .val (.int i3), .unset, .unset, .unset, .unset] [(.int ((p0.toUInt32 >>> ((8 : Int32) &&& 31).toUInt32).toInt32))])) _
    refine XS.iconst X0.here hx rfl (hb hby at_31) ?_
    refine XS.iand X0.here hx rfl (hb hby at_32) rfl ?_
    show Steps p.tables e below (s₁.setTop (mkF m 33 #[.val (.int p0), .val (.int p1), .val (.int p2), .val (.int p3), .val (.int p4), .val (.int (0 : Int32)), .val (.int i1), .val (.int i2), .val (.int i3), .unset, .unset, .unset, .unset] [(.int (((p0.toUInt32 >>> ((8 : Int32) &&& 31).toUInt32).toInt32) &&& (3 : Int32)))])) _
    rw [hv32]
    show Steps p.tables e below (s₁.setTop (mkF m 33 #[.val (.int p0), .val (.int p1), .val (.int p2), .val (.int p3), .val (.int p4), .val (.int (0 : Int32)), .val (.int i1), .val (.int i2), .val (.int i3), .unset, .unset, .unset, .unset] [(.int i4)])) _
    refine XS.istore X0.here hx rfl (hb hby at_33) rfl (l' := #[.val (.int p0), .val (.int p1), .val (.int p2), .val (.int p3), .val (.int p4), .val (.int (0 : Int32)), .val (.int i1), .val (.int i2), .val (.int i3), .val (.int i4), .unset, .unset, .unset]) rfl ?_
    refine st1 _ ?_
    show Steps p.tables e below (T1.setTop (mkF m 38 #[.val (.int p0), .val (.int p1), .val (.int p2), .val (.int p3), .val (.int p4), .val (.int (0 : Int32)), .val (.int i1), .val (.int i2), .val (.int i3), .val (.int i4), .unset, .unset, .unset] [(.ref b1)])) _
    refine XS.dup X1.here hx rfl (hb hby at_38) rfl rfl ?_
    show Steps p.tables e below (T1.setTop (mkF m 39 #[.val (.int p0), .val (.int p1), .val (.int p2), .val (.int p3), .val (.int p4), .val (.int (0 : Int32)), .val (.int i1), .val (.int i2), .val (.int i3), .val (.int i4), .unset, .unset, .unset] [(.ref b1), (.ref b1)])) _
    refine XS.iconst X1.here hx rfl (hb hby at_39) ?_
    refine st2.trans ?_
    show Steps p.tables e below (T2.setTop (mkF m 43 #[.val (.int p0), .val (.int p1), .val (.int p2), .val (.int p3), .val (.int p4), .val (.int (0 : Int32)), .val (.int i1), .val (.int i2), .val (.int i3), .val (.int i4), .unset, .unset, .unset] [(.ref b1)])) _
    refine XS.astore X2.here hx rfl (hb hby at_43) rfl rfl (l' := #[.val (.int p0), .val (.int p1), .val (.int p2), .val (.int p3), .val (.int p4), .val (.int (0 : Int32)), .val (.int i1), .val (.int i2), .val (.int i3), .val (.int i4), .val (.ref b1), .unset, .unset]) rfl ?_
    refine XS.iload X2.here hx rfl (hb hby at_45) rfl ?_
    refine XS.iconst X2.here hx rfl (hb hby at_47) ?_
    refine XS.icmpYes X2.here hx rfl (pc0 := 48) (pc' := 60) rfl (hb hby at_48) rfl (tlt (by decide : (0 : Int32) < (1 : Int32))).1 (by decide) (by decide) ?_
    show Steps p.tables e below (T2.setTop (mkF m 60 #[.val (.int p0), .val (.int p1), .val (.int p2), .val (.int p3), .val (.int p4), .val (.int (0 : Int32)), .val (.int i1), .val (.int i2), .val (.int i3), .val (.int i4), .val (.ref b1), .unset, .unset] [])) _
    refine XS.iload X2.here hx rfl (hb hby at_60) rfl ?_
    refine XS.iconst X2.here hx rfl (hb hby at_62) ?_
    refine XS.icmpYes X2.here hx rfl (pc0 := 63) (pc' := 75) rfl (hb hby at_63) rfl (tlt (by decide : (0 : Int32) < (2 : Int32))).1 (by decide) (by decide) ?_
    refine XS.iload X2.here hx rfl (hb hby at_75) rfl ?_
    refine XS.iconst X2.here hx rfl (hb hby at_77) ?_
    refine XS.icmpYes X2.here hx rfl (pc0 := 78) (pc' := 90) rfl (hb hby at_78) rfl (tlt (by decide : (0 : Int32) < (3 : Int32))).1 (by decide) (by decide) ?_
    show Steps p.tables e below (T2.setTop (mkF m 90 #[.val (.int p0), .val (.int p1), .val (.int p2), .val (.int p3), .val (.int p4), .val (.int (0 : Int32)), .val (.int i1), .val (.int i2), .val (.int i3), .val (.int i4), .val (.ref b1), .unset, .unset] [])) _
    refine XS.aload X2.here hx rfl (hb hby at_90) rfl rfl ?_
    refine st18.trans ?_
    show Steps p.tables e below (T18.setTop (mkF m 95 #[.val (.int p0), .val (.int p1), .val (.int p2), .val (.int p3), .val (.int p4), .val (.int (0 : Int32)), .val (.int i1), .val (.int i2), .val (.int i3), .val (.int i4), .val (.ref b1), .unset, .unset] [])) _
    refine XS.aload X18.here hx rfl (hb hby at_95) rfl rfl ?_
    refine st31.trans ?_
    show Steps p.tables e below (T31.setTop (mkF m 100 #[.val (.int p0), .val (.int p1), .val (.int p2), .val (.int p3), .val (.int p4), .val (.int (0 : Int32)), .val (.int i1), .val (.int i2), .val (.int i3), .val (.int i4), .val (.ref b1), .unset, .unset] [(.ref b2_2)])) _
    refine XS.astore X31.here hx rfl (hb hby at_100) rfl rfl (l' := #[.val (.int p0), .val (.int p1), .val (.int p2), .val (.int p3), .val (.int p4), .val (.int (0 : Int32)), .val (.int i1), .val (.int i2), .val (.int i3), .val (.int i4), .val (.ref b1), .val (.ref b2_2), .unset]) rfl ?_
    refine XS.aload X31.here hx rfl (hb hby at_102) rfl rfl ?_
    show Steps p.tables e below (T31.setTop (mkF m 104 #[.val (.int p0), .val (.int p1), .val (.int p2), .val (.int p3), .val (.int p4), .val (.int (0 : Int32)), .val (.int i1), .val (.int i2), .val (.int i3), .val (.int i4), .val (.ref b1), .val (.ref b2_2), .unset] [(.ref b1)])) _
    refine st32.trans ?_
    show Steps p.tables e below (T32.setTop (mkF m 107 #[.val (.int p0), .val (.int p1), .val (.int p2), .val (.int p3), .val (.int p4), .val (.int (0 : Int32)), .val (.int i1), .val (.int i2), .val (.int i3), .val (.int i4), .val (.ref b1), .val (.ref b2_2), .unset] [(.int (0 : Int32))])) _
    refine XS.ifNo X32.here hx rfl (hb hby at_107) rfl ((if0 _ _).trans (teq (by decide : (0 : Int32) = (0 : Int32))).2) ?_
    refine XS.aload X32.here hx rfl (hb hby at_110) rfl rfl ?_
    refine XS.iconst X32.here hx rfl (hb hby at_112) ?_
    refine X32.daload hx (j := (0 : Int32)) (v := (.double (0 : UInt64))) (by rw [e32]; exact Arq33.1) (State.isArrayOf_alike hZ.alike Arq33.2.1) Arq33.2.2 (inb_of Sq33 ⟨by decide, by decide⟩) (Has.at Hq33 (inb_of Sq33 ⟨by decide, by decide⟩) rfl) (g := (mkF m 113 #[.val (.int p0), .val (.int p1), .val (.int p2), .val (.int p3), .val (.int p4), .val (.int (0 : Int32)), .val (.int i1), .val (.int i2), .val (.int i3), .val (.int i4), .val (.ref b1), .val (.ref b2_2), .unset] [(.int (0 : Int32)), (.ref b2_2)])) rfl rfl (hb hby at_113) _ ?_
    show Steps p.tables e below (T32.setTop (mkF m 114 #[.val (.int p0), .val (.int p1), .val (.int p2), .val (.int p3), .val (.int p4), .val (.int (0 : Int32)), .val (.int i1), .val (.int i2), .val (.int i3), .val (.int i4), .val (.ref b1), .val (.ref b2_2), .unset] [(.double (0 : UInt64))])) _
    refine XS.dconst0 X32.here hx rfl (hb hby at_114) (v := (0 : UInt64)) rfl ?_
    show Steps p.tables e below (T32.setTop (mkF m 115 #[.val (.int p0), .val (.int p1), .val (.int p2), .val (.int p3), .val (.int p4), .val (.int (0 : Int32)), .val (.int i1), .val (.int i2), .val (.int i3), .val (.int i4), .val (.ref b1), .val (.ref b2_2), .unset] [(.double (0 : UInt64)), (.double (0 : UInt64))])) _
    refine XS.dcmpS X32.here hx rfl (hb hby at_115) rfl (v := (0 : Int32)) hd115 ?_
    refine XS.ifNo X32.here hx rfl (hb hby at_116) rfl ((if0 _ _).trans (teq (by decide : (0 : Int32) = (0 : Int32))).2) ?_
    refine XS.aload X32.here hx rfl (hb hby at_119) rfl rfl ?_
    refine XS.iconst X32.here hx rfl (hb hby at_121) ?_
    refine X32.daload hx (j := (1 : Int32)) (v := (.double (0 : UInt64))) (by rw [e32]; exact Arq34.1) (State.isArrayOf_alike hZ.alike Arq34.2.1) Arq34.2.2 (inb_of Sq34 ⟨by decide, by decide⟩) (Has.at Hq34 (inb_of Sq34 ⟨by decide, by decide⟩) rfl) (g := (mkF m 122 #[.val (.int p0), .val (.int p1), .val (.int p2), .val (.int p3), .val (.int p4), .val (.int (0 : Int32)), .val (.int i1), .val (.int i2), .val (.int i3), .val (.int i4), .val (.ref b1), .val (.ref b2_2), .unset] [(.int (1 : Int32)), (.ref b2_2)])) rfl rfl (hb hby at_122) _ ?_
    show Steps p.tables e below (T32.setTop (mkF m 123 #[.val (.int p0), .val (.int p1), .val (.int p2), .val (.int p3), .val (.int p4), .val (.int (0 : Int32)), .val (.int i1), .val (.int i2), .val (.int i3), .val (.int i4), .val (.ref b1), .val (.ref b2_2), .unset] [(.double (0 : UInt64))])) _
    refine XS.dconst0 X32.here hx rfl (hb hby at_123) (v := (0 : UInt64)) rfl ?_
    show Steps p.tables e below (T32.setTop (mkF m 124 #[.val (.int p0), .val (.int p1), .val (.int p2), .val (.int p3), .val (.int p4), .val (.int (0 : Int32)), .val (.int i1), .val (.int i2), .val (.int i3), .val (.int i4), .val (.ref b1), .val (.ref b2_2), .unset] [(.double (0 : UInt64)), (.double (0 : UInt64))])) _
    refine XS.dcmpS X32.here hx rfl (hb hby at_124) rfl (v := (0 : Int32)) hd124 ?_
    refine XS.ifNo X32.here hx rfl (hb hby at_125) rfl ((if0 _ _).trans (teq (by decide : (0 : Int32) = (0 : Int32))).2) ?_
    refine XS.aload X32.here hx rfl (hb hby at_128) rfl rfl ?_
    refine XS.iconst X32.here hx rfl (hb hby at_130) ?_
    refine X32.daload hx (j := (2 : Int32)) (v := (.double (0 : UInt64))) (by rw [e32]; exact Arq35.1) (State.isArrayOf_alike hZ.alike Arq35.2.1) Arq35.2.2 (inb_of Sq35 ⟨by decide, by decide⟩) (Has.at Hq35 (inb_of Sq35 ⟨by decide, by decide⟩) rfl) (g := (mkF m 131 #[.val (.int p0), .val (.int p1), .val (.int p2), .val (.int p3), .val (.int p4), .val (.int (0 : Int32)), .val (.int i1), .val (.int i2), .val (.int i3), .val (.int i4), .val (.ref b1), .val (.ref b2_2), .unset] [(.int (2 : Int32)), (.ref b2_2)])) rfl rfl (hb hby at_131) _ ?_
    show Steps p.tables e below (T32.setTop (mkF m 132 #[.val (.int p0), .val (.int p1), .val (.int p2), .val (.int p3), .val (.int p4), .val (.int (0 : Int32)), .val (.int i1), .val (.int i2), .val (.int i3), .val (.int i4), .val (.ref b1), .val (.ref b2_2), .unset] [(.double (0 : UInt64))])) _
    refine XS.dconst0 X32.here hx rfl (hb hby at_132) (v := (0 : UInt64)) rfl ?_
    show Steps p.tables e below (T32.setTop (mkF m 133 #[.val (.int p0), .val (.int p1), .val (.int p2), .val (.int p3), .val (.int p4), .val (.int (0 : Int32)), .val (.int i1), .val (.int i2), .val (.int i3), .val (.int i4), .val (.ref b1), .val (.ref b2_2), .unset] [(.double (0 : UInt64)), (.double (0 : UInt64))])) _
    refine XS.dcmpS X32.here hx rfl (hb hby at_133) rfl (v := (0 : Int32)) hd133 ?_
    refine XS.ifNo X32.here hx rfl (hb hby at_134) rfl ((if0 _ _).trans (teq (by decide : (0 : Int32) = (0 : Int32))).2) ?_
    refine XS.aload X32.here hx rfl (hb hby at_137) rfl rfl ?_
    refine XS.iconst X32.here hx rfl (hb hby at_139) ?_
    refine X32.daload hx (j := (3 : Int32)) (v := (.double (0 : UInt64))) (by rw [e32]; exact Arq36.1) (State.isArrayOf_alike hZ.alike Arq36.2.1) Arq36.2.2 (inb_of Sq36 ⟨by decide, by decide⟩) (Has.at Hq36 (inb_of Sq36 ⟨by decide, by decide⟩) rfl) (g := (mkF m 140 #[.val (.int p0), .val (.int p1), .val (.int p2), .val (.int p3), .val (.int p4), .val (.int (0 : Int32)), .val (.int i1), .val (.int i2), .val (.int i3), .val (.int i4), .val (.ref b1), .val (.ref b2_2), .unset] [(.int (3 : Int32)), (.ref b2_2)])) rfl rfl (hb hby at_140) _ ?_
    show Steps p.tables e below (T32.setTop (mkF m 141 #[.val (.int p0), .val (.int p1), .val (.int p2), .val (.int p3), .val (.int p4), .val (.int (0 : Int32)), .val (.int i1), .val (.int i2), .val (.int i3), .val (.int i4), .val (.ref b1), .val (.ref b2_2), .unset] [(.double (0 : UInt64))])) _
    refine XS.dconst0 X32.here hx rfl (hb hby at_141) (v := (0 : UInt64)) rfl ?_
    show Steps p.tables e below (T32.setTop (mkF m 142 #[.val (.int p0), .val (.int p1), .val (.int p2), .val (.int p3), .val (.int p4), .val (.int (0 : Int32)), .val (.int i1), .val (.int i2), .val (.int i3), .val (.int i4), .val (.ref b1), .val (.ref b2_2), .unset] [(.double (0 : UInt64)), (.double (0 : UInt64))])) _
    refine XS.dcmpS X32.here hx rfl (hb hby at_142) rfl (v := (0 : Int32)) hd142 ?_
    refine XS.ifNo X32.here hx rfl (hb hby at_143) rfl ((if0 _ _).trans (teq (by decide : (0 : Int32) = (0 : Int32))).2) ?_
    refine XS.iconst X32.here hx rfl (hb hby at_146) ?_
    refine XS.goto X32.here hx rfl (pc0 := 147) (pc' := 151) rfl (hb hby at_147) (by decide) (by decide) ?_
    refine XS.istore X32.here hx rfl (hb hby at_151) rfl (l' := #[.val (.int p0), .val (.int p1), .val (.int p2), .val (.int p3), .val (.int p4), .val (.int (0 : Int32)), .val (.int i1), .val (.int i2), .val (.int i3), .val (.int i4), .val (.ref b1), .val (.ref b2_2), .val (.int (1 : Int32))]) rfl ?_
    refine XS.aload X32.here hx rfl (hb hby at_153) rfl rfl ?_
    show Steps p.tables e below (T32.setTop (mkF m 155 #[.val (.int p0), .val (.int p1), .val (.int p2), .val (.int p3), .val (.int p4), .val (.int (0 : Int32)), .val (.int i1), .val (.int i2), .val (.int i3), .val (.int i4), .val (.ref b1), .val (.ref b2_2), .val (.int (1 : Int32))] [(.ref b1)])) _
    refine XS.iload X32.here hx rfl (hb hby at_155) rfl ?_
    refine XS.iload X32.here hx rfl (hb hby at_157) rfl ?_
    refine XS.i2dS X32.here hx rfl (hb hby at_159) rfl (v := (FP.i2d p4)) rfl ?_
    refine st37.trans ?_
    show Steps p.tables e below (T37.setTop (mkF m 163 #[.val (.int p0), .val (.int p1), .val (.int p2), .val (.int p3), .val (.int p4), .val (.int (0 : Int32)), .val (.int i1), .val (.int i2), .val (.int i3), .val (.int i4), .val (.ref b1), .val (.ref b2_2), .val (.int (1 : Int32))] [])) _
    refine XS.aload X37.here hx rfl (hb hby at_163) rfl rfl ?_
    refine st47.trans ?_
    show Steps p.tables e below (T47.setTop (mkF m 168 #[.val (.int p0), .val (.int p1), .val (.int p2), .val (.int p3), .val (.int p4), .val (.int (0 : Int32)), .val (.int i1), .val (.int i2), .val (.int i3), .val (.int i4), .val (.ref b1), .val (.ref b2_2), .val (.int (1 : Int32))] [(.ref b2_2)])) _
    refine XS.astore X47.here hx rfl (hb hby at_168) rfl rfl (l' := #[.val (.int p0), .val (.int p1), .val (.int p2), .val (.int p3), .val (.int p4), .val (.int (0 : Int32)), .val (.int i1), .val (.int i2), .val (.int i3), .val (.int i4), .val (.ref b1), .val (.ref b2_2), .val (.int (1 : Int32))]) rfl ?_
    refine XS.iload X47.here hx rfl (hb hby at_170) rfl ?_
    refine XS.ifNo X47.here hx rfl (hb hby at_172) rfl ((if0 _ _).trans (feq (by decide : ¬ ((1 : Int32) = (0 : Int32)))).1) ?_
    refine XS.aload X47.here hx rfl (hb hby at_175) rfl rfl ?_
    refine st48.trans ?_
    show Steps p.tables e below (T48.setTop (mkF m 180 #[.val (.int p0), .val (.int p1), .val (.int p2), .val (.int p3), .val (.int p4), .val (.int (0 : Int32)), .val (.int i1), .val (.int i2), .val (.int i3), .val (.int i4), .val (.ref b1), .val (.ref b2_2), .val (.int (1 : Int32))] [(.int (1 : Int32))])) _
    refine XS.iconst X48.here hx rfl (hb hby at_180) ?_
    show Steps p.tables e below (T48.setTop (mkF m 181 #[.val (.int p0), .val (.int p1), .val (.int p2), .val (.int p3), .val (.int p4), .val (.int (0 : Int32)), .val (.int i1), .val (.int i2), .val (.int i3), .val (.int i4), .val (.ref b1), .val (.ref b2_2), .val (.int (1 : Int32))] [(.int (1 : Int32)), (.int (1 : Int32))])) _
    refine XS.icmpNo X48.here hx rfl (hb hby at_181) rfl (teq (by decide : (1 : Int32) = (1 : Int32))).2 ?_
    refine XS.aload X48.here hx rfl (hb hby at_184) rfl rfl ?_
    refine st49.trans ?_
    show Steps p.tables e below (T49.setTop (mkF m 189 #[.val (.int p0), .val (.int p1), .val (.int p2), .val (.int p3), .val (.int p4), .val (.int (0 : Int32)), .val (.int i1), .val (.int i2), .val (.int i3), .val (.int i4), .val (.ref b1), .val (.ref b2_2), .val (.int (1 : Int32))] [(.ref b30_2)])) _
    refine XS.iconst X49.here hx rfl (hb hby at_189) ?_
    refine X49.iaload hx (j := (0 : Int32)) (v := (.int i4)) (by rw [e49]; exact Arq50.1) (State.isArrayOf_alike hZ.alike Arq50.2.1) Arq50.2.2 (inb_of Sq50 ⟨by decide, by decide⟩) (Has.at Hq50 (inb_of Sq50 ⟨by decide, by decide⟩) rfl) (g := (mkF m 190 #[.val (.int p0), .val (.int p1), .val (.int p2), .val (.int p3), .val (.int p4), .val (.int (0 : Int32)), .val (.int i1), .val (.int i2), .val (.int i3), .val (.int i4), .val (.ref b1), .val (.ref b2_2), .val (.int (1 : Int32))] [(.int (0 : Int32)), (.ref b30_2)])) rfl rfl (hb hby at_190) _ ?_
    show Steps p.tables e below (T49.setTop (mkF m 191 #[.val (.int p0), .val (.int p1), .val (.int p2), .val (.int p3), .val (.int p4), .val (.int (0 : Int32)), .val (.int i1), .val (.int i2), .val (.int i3), .val (.int i4), .val (.ref b1), .val (.ref b2_2), .val (.int (1 : Int32))] [(.int i4)])) _
    refine XS.iload X49.here hx rfl (hb hby at_191) rfl ?_
    show Steps p.tables e below (T49.setTop (mkF m 193 #[.val (.int p0), .val (.int p1), .val (.int p2), .val (.int p3), .val (.int p4), .val (.int (0 : Int32)), .val (.int i1), .val (.int i2), .val (.int i3), .val (.int i4), .val (.ref b1), .val (.ref b2_2), .val (.int (1 : Int32))] [(.int i4), (.int i4)])) _
    refine XS.icmpNo X49.here hx rfl (hb hby at_193) rfl (teq (rfl : i4 = i4)).2 ?_
    refine XS.aload X49.here hx rfl (hb hby at_196) rfl rfl ?_
    refine XS.iload X49.here hx rfl (hb hby at_198) rfl ?_
    refine X49.daload hx (j := i4) (v := (.double y9)) (by rw [e49]; exact Arq51.1) (State.isArrayOf_alike hZ.alike Arq51.2.1) Arq51.2.2 (inb_of Sq51 hix4) (Has.at Hq51 (inb_of Sq51 hix4) hr200) (g := (mkF m 200 #[.val (.int p0), .val (.int p1), .val (.int p2), .val (.int p3), .val (.int p4), .val (.int (0 : Int32)), .val (.int i1), .val (.int i2), .val (.int i3), .val (.int i4), .val (.ref b1), .val (.ref b2_2), .val (.int (1 : Int32))] [(.int i4), (.ref b2_2)])) rfl rfl (hb hby at_200) _ ?_
    show Steps p.tables e below (T49.setTop (mkF m 201 #[.val (.int p0), .val (.int p1), .val (.int p2), .val (.int p3), .val (.int p4), .val (.int (0 : Int32)), .val (.int i1), .val (.int i2), .val (.int i3), .val (.int i4), .val (.ref b1), .val (.ref b2_2), .val (.int (1 : Int32))] [(.double y9)])) _
    refine XS.iload X49.here hx rfl (hb hby at_201) rfl ?_
    refine XS.i2dS X49.here hx rfl (hb hby at_203) rfl (v := (FP.i2d p4)) rfl ?_
    show Steps p.tables e below (T49.setTop (mkF m 204 #[.val (.int p0), .val (.int p1), .val (.int p2), .val (.int p3), .val (.int p4), .val (.int (0 : Int32)), .val (.int i1), .val (.int i2), .val (.int i3), .val (.int i4), .val (.ref b1), .val (.ref b2_2), .val (.int (1 : Int32))] [(.double (FP.i2d p4)), (.double y9)])) _
    refine XS.dcmpS X49.here hx rfl (hb hby at_204) rfl (v := (0 : Int32)) hd204 ?_
    refine XS.ifNo X49.here hx rfl (hb hby at_205) rfl ((if0 _ _).trans (teq (by decide : (0 : Int32) = (0 : Int32))).2) ?_
    refine XS.iconst X49.here hx rfl (hb hby at_208) ?_
    refine XS.goto X49.here hx rfl (pc0 := 209) (pc' := 213) rfl (hb hby at_209) (by decide) (by decide) ?_
    refine XS.istore X49.here hx rfl (hb hby at_213) rfl (l' := #[.val (.int p0), .val (.int p1), .val (.int p2), .val (.int p3), .val (.int p4), .val (.int (0 : Int32)), .val (.int i1), .val (.int i2), .val (.int i3), .val (.int i4), .val (.ref b1), .val (.ref b2_2), .val (.int (1 : Int32))]) rfl ?_
    refine XS.iload X49.here hx rfl (hb hby at_215) rfl ?_
    show Steps p.tables e below (T49.setTop (mkF m 217 #[.val (.int p0), .val (.int p1), .val (.int p2), .val (.int p3), .val (.int p4), .val (.int (0 : Int32)), .val (.int i1), .val (.int i2), .val (.int i3), .val (.int i4), .val (.ref b1), .val (.ref b2_2), .val (.int (1 : Int32))] [(.int (1 : Int32))])) _
    refine XS.ifNo X49.here hx rfl (hb hby at_217) rfl ((if0 _ _).trans (feq (by decide : ¬ ((1 : Int32) = (0 : Int32)))).1) ?_
    refine XS.aload X49.here hx rfl (hb hby at_220) rfl rfl ?_
    refine XS.iconst X49.here hx rfl (hb hby at_222) ?_
    refine XS.iload X49.here hx rfl (hb hby at_223) rfl ?_
    refine st52 _ ?_
    show Steps p.tables e below (T52.setTop (mkF m 228 #[.val (.int p0), .val (.int p1), .val (.int p2), .val (.int p3), .val (.int p4), .val (.int (0 : Int32)), .val (.int i1), .val (.int i2), .val (.int i3), .val (.int i4), .val (.ref b1), .val (.ref b2_2), .val (.int (1 : Int32))] [(.int (1 : Int32))])) _
    refine XS.ifNo X52.here hx rfl (hb hby at_228) rfl ((if0 _ _).trans (feq (by decide : ¬ ((1 : Int32) = (0 : Int32)))).1) ?_
    show Steps p.tables e below (T52.setTop (mkF m 231 #[.val (.int p0), .val (.int p1), .val (.int p2), .val (.int p3), .val (.int p4), .val (.int (0 : Int32)), .val (.int i1), .val (.int i2), .val (.int i3), .val (.int i4), .val (.ref b1), .val (.ref b2_2), .val (.int (1 : Int32))] [])) _
    refine XS.aload X52.here hx rfl (hb hby at_231) rfl rfl ?_
    refine XS.iconst X52.here hx rfl (hb hby at_233) ?_
    refine XS.iload X52.here hx rfl (hb hby at_234) rfl ?_
    refine st53 _ ?_
    show Steps p.tables e below (T53.setTop (mkF m 239 #[.val (.int p0), .val (.int p1), .val (.int p2), .val (.int p3), .val (.int p4), .val (.int (0 : Int32)), .val (.int i1), .val (.int i2), .val (.int i3), .val (.int i4), .val (.ref b1), .val (.ref b2_2), .val (.int (1 : Int32))] [(.int (1 : Int32))])) _
    refine XS.ifNo X53.here hx rfl (hb hby at_239) rfl ((if0 _ _).trans (feq (by decide : ¬ ((1 : Int32) = (0 : Int32)))).1) ?_
    refine XS.aload X53.here hx rfl (hb hby at_242) rfl rfl ?_
    show Steps p.tables e below (T53.setTop (mkF m 244 #[.val (.int p0), .val (.int p1), .val (.int p2), .val (.int p3), .val (.int p4), .val (.int (0 : Int32)), .val (.int i1), .val (.int i2), .val (.int i3), .val (.int i4), .val (.ref b1), .val (.ref b2_2), .val (.int (1 : Int32))] [(.ref b2_2)])) _
    refine XS.iconst X53.here hx rfl (hb hby at_244) ?_
    refine XS.iload X53.here hx rfl (hb hby at_245) rfl ?_
    refine st54 _ ?_
    show Steps p.tables e below (T54.setTop (mkF m 250 #[.val (.int p0), .val (.int p1), .val (.int p2), .val (.int p3), .val (.int p4), .val (.int (0 : Int32)), .val (.int i1), .val (.int i2), .val (.int i3), .val (.int i4), .val (.ref b1), .val (.ref b2_2), .val (.int (1 : Int32))] [(.int (1 : Int32))])) _
    refine XS.ifNo X54.here hx rfl (hb hby at_250) rfl ((if0 _ _).trans (feq (by decide : ¬ ((1 : Int32) = (0 : Int32)))).1) ?_
    refine XS.aload X54.here hx rfl (hb hby at_253) rfl rfl ?_
    refine XS.iconst X54.here hx rfl (hb hby at_255) ?_
    show Steps p.tables e below (T54.setTop (mkF m 256 #[.val (.int p0), .val (.int p1), .val (.int p2), .val (.int p3), .val (.int p4), .val (.int (0 : Int32)), .val (.int i1), .val (.int i2), .val (.int i3), .val (.int i4), .val (.ref b1), .val (.ref b2_2), .val (.int (1 : Int32))] [(.int (3 : Int32)), (.ref b2_2)])) _
    refine XS.iload X54.here hx rfl (hb hby at_256) rfl ?_
    refine st55 _ ?_
    show Steps p.tables e below (T55.setTop (mkF m 261 #[.val (.int p0), .val (.int p1), .val (.int p2), .val (.int p3), .val (.int p4), .val (.int (0 : Int32)), .val (.int i1), .val (.int i2), .val (.int i3), .val (.int i4), .val (.ref b1), .val (.ref b2_2), .val (.int (1 : Int32))] [(.int (1 : Int32))])) _
    refine XS.ifNo X55.here hx rfl (hb hby at_261) rfl ((if0 _ _).trans (feq (by decide : ¬ ((1 : Int32) = (0 : Int32)))).1) ?_
    refine XS.iconst X55.here hx rfl (hb hby at_264) ?_
    refine XS.goto X55.here hx rfl (pc0 := 265) (pc' := 269) rfl (hb hby at_265) (by decide) (by decide) ?_
    refine XS.istore X55.here hx rfl (hb hby at_269) rfl (l' := #[.val (.int p0), .val (.int p1), .val (.int p2), .val (.int p3), .val (.int p4), .val (.int (0 : Int32)), .val (.int i1), .val (.int i2), .val (.int i3), .val (.int i4), .val (.ref b1), .val (.ref b2_2), .val (.int (1 : Int32))]) rfl ?_
    show Steps p.tables e below (T55.setTop (mkF m 271 #[.val (.int p0), .val (.int p1), .val (.int p2), .val (.int p3), .val (.int p4), .val (.int (0 : Int32)), .val (.int i1), .val (.int i2), .val (.int i3), .val (.int i4), .val (.ref b1), .val (.ref b2_2), .val (.int (1 : Int32))] [])) _
    refine XS.iload X55.here hx rfl (hb hby at_271) rfl ?_
    exact retN X55 hx (t := .boolean) Bd.returns (by simp) (hb hby at_273) hr
  · show Q0 n0 _ T55.heap _
    rw [e55]
    exact ⟨rfl, N55⟩
set_option maxRecDepth 65536 in
set_option maxHeartbeats 40000000 in
theorem rm1 (l : Launch) (Z : State) (a0 : Array Value) (hw : ∀ d ∈ tables_1, d.before a0 Z = true) (ws : List Jvm.Cond) (p0 : Int32) (p1 : Int32) (p2 : Int32) (p3 : Int32) (p4 : Int32) (i4 : Int32) (U1 : List Value) (x1 : UInt64) (y1 : UInt64) (M1 : List Value) (U9 : List Value) (M9 : List Value) (y9 : UInt64) (i1 : Int32) (i2 : Int32) (i3 : Int32) (h0 : Heap) (n0 : Nat) (Z0 : n0 ≤ h0.size) (hix4 : ¬ i4 < 0 ∧ i4 < (4 : Int32)) (hr200 : U9.getD i4.toNatClampNeg (.double (0 : UInt64)) = .double y9) (hv2 : (p0 &&& (3 : Int32)) = (1 : Int32)) (hv9 : (((p0.toUInt32 >>> ((2 : Int32) &&& 31).toUInt32).toInt32) &&& (3 : Int32)) = i1) (hv16 : (((p0.toUInt32 >>> ((4 : Int32) &&& 31).toUInt32).toInt32) &&& (3 : Int32)) = i2) (hv24 : (((p0.toUInt32 >>> ((6 : Int32) &&& 31).toUInt32).toInt32) &&& (3 : Int32)) = i3) (hv32 : (((p0.toUInt32 >>> ((8 : Int32) &&& 31).toUInt32).toInt32) &&& (3 : Int32)) = i4) (hix_57 : ¬ i1 < 0 ∧ i1 < (4 : Int32)) (hrl_57 : ([(.int (0 : Int32)), (.int (0 : Int32)), (.int (0 : Int32)), (.int (0 : Int32))] : List Value).getD i1.toNatClampNeg (.int (0 : Int32)) = .int (0 : Int32)) (hrv_57 : ([(.double (0 : UInt64)), (.double (0 : UInt64)), (.double (0 : UInt64)), (.double (0 : UInt64))] : List Value).getD i1.toNatClampNeg (.double (0 : UInt64)) = .double x1) (hvl_57 : i1.toNatClampNeg < ([(.double (0 : UInt64)), (.double (0 : UInt64)), (.double (0 : UInt64)), (.double (0 : UInt64))] : List Value).length) (hll_57 : i1.toNatClampNeg < ([(.int (0 : Int32)), (.int (0 : Int32)), (.int (0 : Int32)), (.int (0 : Int32))] : List Value).length) (hls_57 : (([(.int (0 : Int32)), (.int (0 : Int32)), (.int (0 : Int32)), (.int (0 : Int32))] : List Value).set i1.toNatClampNeg (.int (1 : Int32))) = M1) (hvs_57 : (([(.double (0 : UInt64)), (.double (0 : UInt64)), (.double (0 : UInt64)), (.double (0 : UInt64))] : List Value).set i1.toNatClampNeg (.double y1)) = U1) (nn41_57 : Jvm.Free.Fl.NoNaN64 (FP.dadd x1 (FP.i2d p1))) (hq41_57 : (FP.dadd x1 (FP.i2d p1)) = y1) (hx0_92 : ¬ i1 < 0 ∧ i1 < (4 : Int32)) (hv0_92 : i1.toNatClampNeg < U1.length) (hl0_92 : i1.toNatClampNeg < M1.length) (hvs_92 : (U1.set i1.toNatClampNeg (.double (0 : UInt64))) = ([(.double (0 : UInt64)), (.double (0 : UInt64)), (.double (0 : UInt64)), (.double (0 : UInt64))] : List Value)) (hls_92 : (M1.set i1.toNatClampNeg (.int (0 : Int32))) = ([(.int (0 : Int32)), (.int (0 : Int32)), (.int (0 : Int32)), (.int (0 : Int32))] : List Value)) (hd115 : (cmpValue (FP.dcmp (0 : UInt64) (0 : UInt64)) .l) = (0 : Int32)) (hd124 : (cmpValue (FP.dcmp (0 : UInt64) (0 : UInt64)) .l) = (0 : Int32)) (hd133 : (cmpValue (FP.dcmp (0 : UInt64) (0 : UInt64)) .l) = (0 : Int32)) (hd142 : (cmpValue (FP.dcmp (0 : UInt64) (0 : UInt64)) .l) = (0 : Int32)) (hix_160 : ¬ i4 < 0 ∧ i4 < (4 : Int32)) (hrl_160 : ([(.int (0 : Int32)), (.int (0 : Int32)), (.int (0 : Int32)), (.int (0 : Int32))] : List Value).getD i4.toNatClampNeg (.int (0 : Int32)) = .int (0 : Int32)) (hrv_160 : ([(.double (0 : UInt64)), (.double (0 : UInt64)), (.double (0 : UInt64)), (.double (0 : UInt64))] : List Value).getD i4.toNatClampNeg (.double (0 : UInt64)) = .double (0 : UInt64)) (hvl_160 : i4.toNatClampNeg < ([(.double (0 : UInt64)), (.double (0 : UInt64)), (.double (0 : UInt64)), (.double (0 : UInt64))] : List Value).length) (hll_160 : i4.toNatClampNeg < ([(.int (0 : Int32)), (.int (0 : Int32)), (.int (0 : Int32)), (.int (0 : Int32))] : List Value).length) (hls_160 : (([(.int (0 : Int32)), (.int (0 : Int32)), (.int (0 : Int32)), (.int (0 : Int32))] : List Value).set i4.toNatClampNeg (.int (1 : Int32))) = M9) (hvs_160 : (([(.double (0 : UInt64)), (.double (0 : UInt64)), (.double (0 : UInt64)), (.double (0 : UInt64))] : List Value).set i4.toNatClampNeg (.double y9)) = U9) (nn41_160 : Jvm.Free.Fl.NoNaN64 (FP.dadd (0 : UInt64) (FP.i2d p4))) (hq41_160 : (FP.dadd (0 : UInt64) (FP.i2d p4)) = y9) (hd204 : (cmpValue (FP.dcmp y9 (FP.i2d p4)) .l) = (0 : Int32)) (hix_225 : ¬ (0 : Int32) < 0 ∧ (0 : Int32) < (4 : Int32)) (hrd_225 : ¬ ((0 : Int32) = i4) → U9.getD (0 : Int32).toNatClampNeg (.double (0 : UInt64)) = .double (0 : UInt64)) (hd9_225 : (cmpValue (FP.dcmp (0 : UInt64) (0 : UInt64)) .l) = (0 : Int32)) (hix_236 : ¬ (1 : Int32) < 0 ∧ (1 : Int32) < (4 : Int32)) (hrd_236 : ¬ ((1 : Int32) = i4) → U9.getD (1 : Int32).toNatClampNeg (.double (0 : UInt64)) = .double (0 : UInt64)) (hd9_236 : (cmpValue (FP.dcmp (0 : UInt64) (0 : UInt64)) .l) = (0 : Int32)) (hix_247 : ¬ (2 : Int32) < 0 ∧ (2 : Int32) < (4 : Int32)) (hrd_247 : ¬ ((2 : Int32) = i4) → U9.getD (2 : Int32).toNatClampNeg (.double (0 : UInt64)) = .double (0 : UInt64)) (hd9_247 : (cmpValue (FP.dcmp (0 : UInt64) (0 : UInt64)) .l) = (0 : Int32)) (hix_258 : ¬ (3 : Int32) < 0 ∧ (3 : Int32) < (4 : Int32)) (hrd_258 : ¬ ((3 : Int32) = i4) → U9.getD (3 : Int32).toNatClampNeg (.double (0 : UInt64)) = .double (0 : UInt64)) (hd9_258 : (cmpValue (FP.dcmp (0 : UInt64) (0 : UInt64)) .l) = (0 : Int32)) :
    MetFree l x (head1 (Jvm.Cond.code x code maxLocals ret :: ws) room_1) (fun a U => a = #[(.int p0), (.int p1), (.int p2), (.int p3), (.int p4)] ∧ Z.Warmed39 U.vm ∧ U.heap = h0) (fun _ _ _ _ _ => True) (fun _ U o U' => ∃ v L, o = .returned v ∧ Q0 n0 v U'.heap L ∧ FrameEnd U o U' L room_1.cells room_1.slots) := by
  refine MetFree.of_bodySF (plainFor_of_name pn_com_example_leeway_leeway_lp_SparseColumnClearPinLaw) hisR ?_
  intro p e s m args below meth c s₁ Bd hml0 hP hK
  obtain ⟨rfl, hZ, hh⟩ := hP
  have hx := Bd.exec
  have hby := Bd.bytes
  have hml : c.maxLocals = 13 := hml0
  have hown : s.vm.findClass "com/example/leeway/leeway/lp/SparseColumnClearPinLaw" = some m.cls := findClass_of_methodNamed Bd.named
  have hnm := (name_of_methodNamed Bd.named Bd.method).1
  have X0 : Stand p l e room_1 s m #[(.int p0), (.int p1), (.int p2), (.int p3), (.int p4)] below meth c s₁ [] 0 0 := Stand.of_body Bd
  have e0 : s₁.heap = h0 := by rw [← hh, Bd.state]; rfl
  have N0 := Fr.nil n0
  have pre0 : ∀ t, Steps p.tables e below (s₁.setTop (mkF m 0 #[.val (.int p0), .val (.int p1), .val (.int p2), .val (.int p3), .val (.int p4), .unset, .unset, .unset, .unset, .unset, .unset, .unset, .unset] [])) t → Steps p.tables e below (s₁.setTop (entryFrame m #[(.int p0), (.int p1), (.int p2), (.int p3), (.int p4)] maxLocals)) t := fun t k => castTop (ef_0_IIIII m p0 p1 p2 p3 p4) k
  obtain ⟨T1, h1, X1, e1, E1, A1, D1, -, st1⟩ := newO X0 hx hZ hown (hw _ (List.mem_of_getElem? (i := 0) rfl)) (hw _ (List.mem_of_getElem? (i := 1) rfl)) (hw _ (List.mem_of_getElem? (i := 2) rfl)) e0 (g := (mkF m 35 #[.val (.int p0), .val (.int p1), .val (.int p2), .val (.int p3), .val (.int p4), .val (.int (1 : Int32)), .val (.int i1), .val (.int i2), .val (.int i3), .val (.int i4), .unset, .unset, .unset] [])) rfl (hb hby at_35) (by decide) (by decide)
  obtain ⟨b1, g1⟩ : ∃ z, z = h0.size := ⟨_, rfl⟩
  rw [← g1] at A1 D1 st1
  have g_b1 : n0 ≤ b1 := Nat.le_trans Z0 (Nat.le_of_eq g1.symm)
  have sz_b1 : h0.size ≤ b1 := Nat.le_trans (Keep.refl h0 []).1 (Nat.le_of_eq g1.symm)
  have K1 : Keep h0 h1 [] := (Keep.refl h0 []).ext E1
  have Zs1 := Nat.le_trans Z0 E1.1
  have F1_values : Fld Z h1 b1 "com/example/leeway/leeway/lp/SparseColumn" "values" "[D" .null := D1 (Or.inr (hw _ (List.mem_of_getElem? (i := 11) rfl))) (ty := (.array .double)) (by decide)
  have F1_listed : Fld Z h1 b1 "com/example/leeway/leeway/lp/SparseColumn" "listed" "[Z" .null := D1 (Or.inr (hw _ (List.mem_of_getElem? (i := 14) rfl))) (ty := (.array .boolean)) (by decide)
  have F1_rows : Fld Z h1 b1 "com/example/leeway/leeway/lp/SparseColumn" "rows" "[I" .null := D1 (Or.inr (hw _ (List.mem_of_getElem? (i := 17) rfl))) (ty := (.array .int)) (by decide)
  have F1_count : Fld Z h1 b1 "com/example/leeway/leeway/lp/SparseColumn" "count" "I" (.int (0 : Int32)) := D1 (Or.inl (hw _ (List.mem_of_getElem? (i := 24) rfl))) (ty := .int) (by decide)
  obtain ⟨_, _, ⟨T2, L2, k2, n2⟩, -, X2, ⟨Lc2, hQ2, l2, y2, z2⟩, st2⟩ := X1.specialBack hx (y := (⟨"com/example/leeway/leeway/lp/SparseColumn", "<init>", "(I)V"⟩ : MethodName)) rfl hown (mvT hZ (hw _ (List.mem_of_getElem? (i := 3) rfl))) (mvT hZ (hw _ (List.mem_of_getElem? (i := 4) rfl))) (mvT hZ (hw _ (List.mem_of_getElem? (i := 5) rfl))) (by decide) (backOf (W := 1) (sci l Z a0 hw [] b1 h1 n0 Zs1 g_b1 A1 F1_values F1_listed F1_rows F1_count) hZ (hw _ (List.mem_of_getElem? (i := 5) rfl)) (hw _ (List.mem_of_getElem? (i := 2) rfl)) (by decide) (by decide)) (g := (mkF m 40 #[.val (.int p0), .val (.int p1), .val (.int p2), .val (.int p3), .val (.int p4), .val (.int (1 : Int32)), .val (.int i1), .val (.int i2), .val (.int i3), .val (.int i4), .unset, .unset, .unset] [(.int (4 : Int32)), (.ref b1), (.ref b1)])) rfl (by rw [hml]; rfl) (Steps.refl _) (a := b1) (argsL := [(.int (4 : Int32))]) (rest := [(.ref b1)]) (lenOf pd_0 rfl) rfl (by show 2 * 0 + _ ≤ _; exact Nat.le_of_eq rfl) (hb hby at_40) (fun _ _ => ⟨rfl, e1, (by decide : 1 + 3 ≤ _), (by decide : 4 + 12 ≤ _)⟩)
  dsimp only [Pt.U, Pt.locs, Pt.cells, Pt.slots] at X2 l2 y2 z2 st2 hQ2
  subst l2 y2 z2
  obtain ⟨b2_2, b15_2, b30_2, k2_2, k15_2, k30_2, rfl, N2q, K2q, r3, r4, r5, r6, r7, r8, f9, f10, f11, f12, f13, f14, f15, f16⟩ := hQ2
  have N2 := Fr.app N0 N2q
  have ne_b1_b2_2 : b1 ≠ b2_2 := Nat.ne_of_lt (Nat.lt_of_lt_of_le A1.lt r3)
  have g_b2_2 : n0 ≤ b2_2 := Nat.le_trans Zs1 r3
  have sz_b2_2 : h0.size ≤ b2_2 := Nat.le_trans K1.1 r3
  have ne_b1_b15_2 : b1 ≠ b15_2 := Nat.ne_of_lt (Nat.lt_of_lt_of_le A1.lt r4)
  have g_b15_2 : n0 ≤ b15_2 := Nat.le_trans Zs1 r4
  have sz_b15_2 : h0.size ≤ b15_2 := Nat.le_trans K1.1 r4
  have ne_b1_b30_2 : b1 ≠ b30_2 := Nat.ne_of_lt (Nat.lt_of_lt_of_le A1.lt r5)
  have g_b30_2 : n0 ≤ b30_2 := Nat.le_trans Zs1 r5
  have sz_b30_2 : h0.size ≤ b30_2 := Nat.le_trans K1.1 r5
  have f17 := A1.keep K2q
  have K2 : Keep h0 T2.heap [] := K1.trans K2q (own_allS (Or.inr sz_b1) own_all0)
  have Zs2 := Nat.le_trans Zs1 K2q.1
  obtain ⟨cq18, kq18, q18a, q18b, q18c⟩ := isOf hZ rfl f9
  obtain ⟨_, _, ⟨T18, L18, k18, n18⟩, -, X18, ⟨Lc18, hQ18, l18, y18, z18⟩, st18⟩ := X2.virtualBack hx (y := (⟨"com/example/leeway/leeway/lp/SparseColumn", "add", "(ID)V"⟩ : MethodName)) (z := (⟨"com/example/leeway/leeway/lp/SparseColumn", "add", "(ID)V"⟩ : MethodName)) hown (mvT hZ (hw _ (List.mem_of_getElem? (i := 35) rfl))) (mvT hZ (hw _ (List.mem_of_getElem? (i := 36) rfl))) (notFace_of_selects (args := #[]) (mvT hZ (hw _ (List.mem_of_getElem? (i := 38) rfl)))) (mvT hZ (hw _ (List.mem_of_getElem? (i := 38) rfl))) (mvT hZ (hw _ (List.mem_of_getElem? (i := 37) rfl))) (by decide) (backOf (W := 0) (addN0 l Z a0 hw [] b1 b2_2 b15_2 b30_2 k2_2 k15_2 k30_2 (0 : Int32) (0 : Int32) (0 : Int32) (0 : Int32) ([(.double (0 : UInt64)), (.double (0 : UInt64)), (.double (0 : UInt64)), (.double (0 : UInt64))] : List Value) ([(.int (0 : Int32)), (.int (0 : Int32)), (.int (0 : Int32)), (.int (0 : Int32))] : List Value) U1 M1 i1 (FP.i2d p1) x1 y1 T2.heap n0 Zs2 f10 f11 f12 f13 f9 f14 f15 f16 g_b1 g_b2_2 g_b15_2 g_b30_2 ne_b1_b2_2 ne_b1_b15_2 ne_b1_b30_2 r6 r7 r8 hix_57 hrl_57 hrv_57 hvl_57 hll_57 hls_57 hvs_57 nn41_57 hq41_57) hZ (hw _ (List.mem_of_getElem? (i := 39) rfl)) (hw _ (List.mem_of_getElem? (i := 2) rfl)) (by decide) (by decide)) q18a q18c (g := (mkF m 57 #[.val (.int p0), .val (.int p1), .val (.int p2), .val (.int p3), .val (.int p4), .val (.int (1 : Int32)), .val (.int i1), .val (.int i2), .val (.int i3), .val (.int i4), .val (.ref b1), .unset, .unset] [(.double (FP.i2d p1)), (.int i1), (.ref b1)])) rfl (by rw [hml]; rfl) (Steps.refl _) (argsL := [(.int i1), (.double (FP.i2d p1))]) (rest := []) (lenOf pd_4 rfl) rfl (by show 2 * 0 + _ ≤ _; exact Nat.le_of_eq rfl) (hb hby at_57) (fun _ _ => ⟨rfl, rfl, (by decide : 4 + 0 ≤ _), (by decide : 16 + 0 ≤ _)⟩)
  dsimp only [Pt.U, Pt.locs, Pt.cells, Pt.slots] at X18 l18 y18 z18 st18 hQ18
  subst l18 y18 z18
  obtain ⟨rfl, N18q, K18q, f19, f20, f21, f22, f23, f24, f25, f26⟩ := hQ18
  have N18 := Fr.app N2 N18q
  have f27 := f9.keep K18q
  have K18 : Keep h0 T18.heap [] := K2.trans K18q (own_allS (Or.inr sz_b15_2) (own_allS (Or.inr sz_b1) (own_allS (Or.inr sz_b30_2) (own_allS (Or.inr sz_b2_2) own_all0))))
  have Zs18 := Nat.le_trans Zs2 K18q.1
  obtain ⟨cq28, kq28, q28a, q28b, q28c⟩ := isOf hZ rfl f19
  obtain ⟨_, _, ⟨T28, L28, k28, n28⟩, -, X28, ⟨Lc28, hQ28, l28, y28, z28⟩, st28⟩ := X18.virtualBack hx (y := (⟨"com/example/leeway/leeway/lp/SparseColumn", "clear", "()V"⟩ : MethodName)) (z := (⟨"com/example/leeway/leeway/lp/SparseColumn", "clear", "()V"⟩ : MethodName)) hown (mvT hZ (hw _ (List.mem_of_getElem? (i := 18) rfl))) (mvT hZ (hw _ (List.mem_of_getElem? (i := 19) rfl))) (notFace_of_selects (args := #[]) (mvT hZ (hw _ (List.mem_of_getElem? (i := 21) rfl)))) (mvT hZ (hw _ (List.mem_of_getElem? (i := 21) rfl))) (mvT hZ (hw _ (List.mem_of_getElem? (i := 20) rfl))) (by decide) (backOf (W := 0) (clr1 l Z a0 hw [] b1 b2_2 b15_2 b30_2 k2_2 k15_2 k30_2 i1 (0 : Int32) (0 : Int32) (0 : Int32) U1 M1 ([(.double (0 : UInt64)), (.double (0 : UInt64)), (.double (0 : UInt64)), (.double (0 : UInt64))] : List Value) ([(.int (0 : Int32)), (.int (0 : Int32)), (.int (0 : Int32)), (.int (0 : Int32))] : List Value) T18.heap n0 Zs18 f20 f21 f22 f23 f19 f24 f25 f26 g_b1 g_b2_2 g_b15_2 g_b30_2 ne_b1_b2_2 ne_b1_b15_2 ne_b1_b30_2 r6 r7 r8 hx0_92 hv0_92 hl0_92 hvs_92 hls_92) hZ (hw _ (List.mem_of_getElem? (i := 22) rfl)) (hw _ (List.mem_of_getElem? (i := 2) rfl)) (by decide) (by decide)) q28a q28c (g := (mkF m 92 #[.val (.int p0), .val (.int p1), .val (.int p2), .val (.int p3), .val (.int p4), .val (.int (1 : Int32)), .val (.int i1), .val (.int i2), .val (.int i3), .val (.int i4), .val (.ref b1), .unset, .unset] [(.ref b1)])) rfl (by rw [hml]; rfl) (Steps.refl _) (argsL := []) (rest := []) (lenOf pd_1 rfl) rfl (by show 2 * 0 + _ ≤ _; exact Nat.le_of_eq rfl) (hb hby at_92) (fun _ _ => ⟨rfl, rfl, (by decide : 4 + 0 ≤ _), (by decide : 16 + 0 ≤ _)⟩)
  dsimp only [Pt.U, Pt.locs, Pt.cells, Pt.slots] at X28 l28 y28 z28 st28 hQ28
  subst l28 y28 z28
  obtain ⟨rfl, N28q, K28q, f29, f30, f31, f32, f33, f34, f35, f36⟩ := hQ28
  have N28 := Fr.app N18 N28q
  have f37 := f19.keep K28q
  have f38 := f26.keep K28q (own_niS (Ne.symm r7) (own_niS (Ne.symm r8) (own_niS (Ne.symm ne_b1_b30_2) own_ni0)))
  have K28 : Keep h0 T28.heap [] := K18.trans K28q (own_allS (Or.inr sz_b2_2) (own_allS (Or.inr sz_b15_2) (own_allS (Or.inr sz_b1) own_all0)))
  have Zs28 := Nat.le_trans Zs18 K28q.1
  obtain ⟨cq39, kq39, q39a, q39b, q39c⟩ := isOf hZ rfl f29
  obtain ⟨_, _, ⟨T39, L39, k39, n39⟩, -, X39, ⟨Lc39, hQ39, l39, y39, z39⟩, st39⟩ := X28.virtualBack hx (y := (⟨"com/example/leeway/leeway/lp/SparseColumn", "values", "()[D"⟩ : MethodName)) (z := (⟨"com/example/leeway/leeway/lp/SparseColumn", "values", "()[D"⟩ : MethodName)) hown (mvT hZ (hw _ (List.mem_of_getElem? (i := 25) rfl))) (mvT hZ (hw _ (List.mem_of_getElem? (i := 26) rfl))) (notFace_of_selects (args := #[]) (mvT hZ (hw _ (List.mem_of_getElem? (i := 28) rfl)))) (mvT hZ (hw _ (List.mem_of_getElem? (i := 28) rfl))) (mvT hZ (hw _ (List.mem_of_getElem? (i := 27) rfl))) (by decide) (backOf (W := 0) (gv l Z a0 hw [] b1 b2_2 b15_2 b30_2 k2_2 k15_2 k30_2 i1 (0 : Int32) (0 : Int32) (0 : Int32) ([(.double (0 : UInt64)), (.double (0 : UInt64)), (.double (0 : UInt64)), (.double (0 : UInt64))] : List Value) ([(.int (0 : Int32)), (.int (0 : Int32)), (.int (0 : Int32)), (.int (0 : Int32))] : List Value) (0 : Int32) T28.heap n0 Zs28 f30 f31 f32 f33 f29 f34 f35 f36) hZ (hw _ (List.mem_of_getElem? (i := 29) rfl)) (hw _ (List.mem_of_getElem? (i := 2) rfl)) (by decide) (by decide)) q39a q39c (g := (mkF m 97 #[.val (.int p0), .val (.int p1), .val (.int p2), .val (.int p3), .val (.int p4), .val (.int (1 : Int32)), .val (.int i1), .val (.int i2), .val (.int i3), .val (.int i4), .val (.ref b1), .unset, .unset] [(.ref b1)])) rfl (by rw [hml]; rfl) (Steps.refl _) (argsL := []) (rest := []) (lenOf pd_2 rfl) rfl (by show 2 * 0 + _ ≤ _; exact Nat.le_of_eq rfl) (hb hby at_97) (fun _ _ => ⟨rfl, rfl, (by decide : 4 + 0 ≤ _), (by decide : 16 + 0 ≤ _)⟩)
  dsimp only [Pt.U, Pt.locs, Pt.cells, Pt.slots] at X39 l39 y39 z39 st39 hQ39
  subst l39 y39 z39
  obtain ⟨rfl, N39q, eh39⟩ := hQ39
  have N39 := Fr.app N28 N39q
  have e39 : T39.heap = T28.heap := eh39
  obtain ⟨cq40, kq40, q40a, q40b, q40c⟩ := isOf hZ e39 f29
  obtain ⟨_, _, ⟨T40, L40, k40, n40⟩, -, X40, ⟨Lc40, hQ40, l40, y40, z40⟩, st40⟩ := X39.virtualBack hx (y := (⟨"com/example/leeway/leeway/lp/SparseColumn", "count", "()I"⟩ : MethodName)) (z := (⟨"com/example/leeway/leeway/lp/SparseColumn", "count", "()I"⟩ : MethodName)) hown (mvT hZ (hw _ (List.mem_of_getElem? (i := 30) rfl))) (mvT hZ (hw _ (List.mem_of_getElem? (i := 31) rfl))) (notFace_of_selects (args := #[]) (mvT hZ (hw _ (List.mem_of_getElem? (i := 33) rfl)))) (mvT hZ (hw _ (List.mem_of_getElem? (i := 33) rfl))) (mvT hZ (hw _ (List.mem_of_getElem? (i := 32) rfl))) (by decide) (backOf (W := 0) (gc l Z a0 hw [] b1 b2_2 b15_2 b30_2 k2_2 k15_2 k30_2 i1 (0 : Int32) (0 : Int32) (0 : Int32) ([(.double (0 : UInt64)), (.double (0 : UInt64)), (.double (0 : UInt64)), (.double (0 : UInt64))] : List Value) ([(.int (0 : Int32)), (.int (0 : Int32)), (.int (0 : Int32)), (.int (0 : Int32))] : List Value) (0 : Int32) T28.heap n0 Zs28 f30 f31 f32 f33 f29 f34 f35 f36) hZ (hw _ (List.mem_of_getElem? (i := 34) rfl)) (hw _ (List.mem_of_getElem? (i := 2) rfl)) (by decide) (by decide)) q40a q40c (g := (mkF m 104 #[.val (.int p0), .val (.int p1), .val (.int p2), .val (.int p3), .val (.int p4), .val (.int (1 : Int32)), .val (.int i1), .val (.int i2), .val (.int i3), .val (.int i4), .val (.ref b1), .val (.ref b2_2), .unset] [(.ref b1)])) rfl (by rw [hml]; rfl) (Steps.refl _) (argsL := []) (rest := []) (lenOf pd_3 rfl) rfl (by show 2 * 0 + _ ≤ _; exact Nat.le_of_eq rfl) (hb hby at_104) (fun _ _ => ⟨rfl, e39, (by decide : 4 + 0 ≤ _), (by decide : 16 + 0 ≤ _)⟩)
  dsimp only [Pt.U, Pt.locs, Pt.cells, Pt.slots] at X40 l40 y40 z40 st40 hQ40
  subst l40 y40 z40
  obtain ⟨rfl, N40q, eh40⟩ := hQ40
  have N40 := Fr.app N39 N40q
  have e40 : T40.heap = T28.heap := eh40
  obtain ⟨cq41, Arq41, -, Sq41, -, Hq41, -⟩ := id f34
  obtain ⟨cq42, Arq42, -, Sq42, -, Hq42, -⟩ := id f34
  obtain ⟨cq43, Arq43, -, Sq43, -, Hq43, -⟩ := id f34
  obtain ⟨cq44, Arq44, -, Sq44, -, Hq44, -⟩ := id f34
  obtain ⟨cq45, kq45, q45a, q45b, q45c⟩ := isOf hZ e40 f29
  obtain ⟨_, _, ⟨T45, L45, k45, n45⟩, -, X45, ⟨Lc45, hQ45, l45, y45, z45⟩, st45⟩ := X40.virtualBack hx (y := (⟨"com/example/leeway/leeway/lp/SparseColumn", "add", "(ID)V"⟩ : MethodName)) (z := (⟨"com/example/leeway/leeway/lp/SparseColumn", "add", "(ID)V"⟩ : MethodName)) hown (mvT hZ (hw _ (List.mem_of_getElem? (i := 35) rfl))) (mvT hZ (hw _ (List.mem_of_getElem? (i := 36) rfl))) (notFace_of_selects (args := #[]) (mvT hZ (hw _ (List.mem_of_getElem? (i := 38) rfl)))) (mvT hZ (hw _ (List.mem_of_getElem? (i := 38) rfl))) (mvT hZ (hw _ (List.mem_of_getElem? (i := 37) rfl))) (by decide) (backOf (W := 0) (addN0 l Z a0 hw [] b1 b2_2 b15_2 b30_2 k2_2 k15_2 k30_2 i1 (0 : Int32) (0 : Int32) (0 : Int32) ([(.double (0 : UInt64)), (.double (0 : UInt64)), (.double (0 : UInt64)), (.double (0 : UInt64))] : List Value) ([(.int (0 : Int32)), (.int (0 : Int32)), (.int (0 : Int32)), (.int (0 : Int32))] : List Value) U9 M9 i4 (FP.i2d p4) (0 : UInt64) y9 T28.heap n0 Zs28 f30 f31 f32 f33 f29 f34 f35 f36 g_b1 g_b2_2 g_b15_2 g_b30_2 ne_b1_b2_2 ne_b1_b15_2 ne_b1_b30_2 r6 r7 r8 hix_160 hrl_160 hrv_160 hvl_160 hll_160 hls_160 hvs_160 nn41_160 hq41_160) hZ (hw _ (List.mem_of_getElem? (i := 39) rfl)) (hw _ (List.mem_of_getElem? (i := 2) rfl)) (by decide) (by decide)) q45a q45c (g := (mkF m 160 #[.val (.int p0), .val (.int p1), .val (.int p2), .val (.int p3), .val (.int p4), .val (.int (1 : Int32)), .val (.int i1), .val (.int i2), .val (.int i3), .val (.int i4), .val (.ref b1), .val (.ref b2_2), .val (.int (1 : Int32))] [(.double (FP.i2d p4)), (.int i4), (.ref b1)])) rfl (by rw [hml]; rfl) (Steps.refl _) (argsL := [(.int i4), (.double (FP.i2d p4))]) (rest := []) (lenOf pd_4 rfl) rfl (by show 2 * 0 + _ ≤ _; exact Nat.le_of_eq rfl) (hb hby at_160) (fun _ _ => ⟨rfl, e40, (by decide : 4 + 0 ≤ _), (by decide : 16 + 0 ≤ _)⟩)
  dsimp only [Pt.U, Pt.locs, Pt.cells, Pt.slots] at X45 l45 y45 z45 st45 hQ45
  subst l45 y45 z45
  obtain ⟨rfl, N45q, K45q, f46, f47, f48, f49, f50, f51, f52, f53⟩ := hQ45
  have N45 := Fr.app N40 N45q
  have f54 := f29.keep K45q
  have K45 : Keep h0 T45.heap [] := K28.trans K45q (own_allS (Or.inr sz_b15_2) (own_allS (Or.inr sz_b1) (own_allS (Or.inr sz_b30_2) (own_allS (Or.inr sz_b2_2) own_all0))))
  have Zs45 := Nat.le_trans Zs28 K45q.1
  obtain ⟨cq55, kq55, q55a, q55b, q55c⟩ := isOf hZ rfl f46
  obtain ⟨_, _, ⟨T55, L55, k55, n55⟩, -, X55, ⟨Lc55, hQ55, l55, y55, z55⟩, st55⟩ := X45.virtualBack hx (y := (⟨"com/example/leeway/leeway/lp/SparseColumn", "values", "()[D"⟩ : MethodName)) (z := (⟨"com/example/leeway/leeway/lp/SparseColumn", "values", "()[D"⟩ : MethodName)) hown (mvT hZ (hw _ (List.mem_of_getElem? (i := 25) rfl))) (mvT hZ (hw _ (List.mem_of_getElem? (i := 26) rfl))) (notFace_of_selects (args := #[]) (mvT hZ (hw _ (List.mem_of_getElem? (i := 28) rfl)))) (mvT hZ (hw _ (List.mem_of_getElem? (i := 28) rfl))) (mvT hZ (hw _ (List.mem_of_getElem? (i := 27) rfl))) (by decide) (backOf (W := 0) (gv l Z a0 hw [] b1 b2_2 b15_2 b30_2 k2_2 k15_2 k30_2 i4 (0 : Int32) (0 : Int32) (0 : Int32) U9 M9 (1 : Int32) T45.heap n0 Zs45 f47 f48 f49 f50 f46 f51 f52 f53) hZ (hw _ (List.mem_of_getElem? (i := 29) rfl)) (hw _ (List.mem_of_getElem? (i := 2) rfl)) (by decide) (by decide)) q55a q55c (g := (mkF m 165 #[.val (.int p0), .val (.int p1), .val (.int p2), .val (.int p3), .val (.int p4), .val (.int (1 : Int32)), .val (.int i1), .val (.int i2), .val (.int i3), .val (.int i4), .val (.ref b1), .val (.ref b2_2), .val (.int (1 : Int32))] [(.ref b1)])) rfl (by rw [hml]; rfl) (Steps.refl _) (argsL := []) (rest := []) (lenOf pd_2 rfl) rfl (by show 2 * 0 + _ ≤ _; exact Nat.le_of_eq rfl) (hb hby at_165) (fun _ _ => ⟨rfl, rfl, (by decide : 4 + 0 ≤ _), (by decide : 16 + 0 ≤ _)⟩)
  dsimp only [Pt.U, Pt.locs, Pt.cells, Pt.slots] at X55 l55 y55 z55 st55 hQ55
  subst l55 y55 z55
  obtain ⟨rfl, N55q, eh55⟩ := hQ55
  have N55 := Fr.app N45 N55q
  have e55 : T55.heap = T45.heap := eh55
  obtain ⟨cq56, kq56, q56a, q56b, q56c⟩ := isOf hZ e55 f46
  obtain ⟨_, _, ⟨T56, L56, k56, n56⟩, -, X56, ⟨Lc56, hQ56, l56, y56, z56⟩, st56⟩ := X55.virtualBack hx (y := (⟨"com/example/leeway/leeway/lp/SparseColumn", "count", "()I"⟩ : MethodName)) (z := (⟨"com/example/leeway/leeway/lp/SparseColumn", "count", "()I"⟩ : MethodName)) hown (mvT hZ (hw _ (List.mem_of_getElem? (i := 30) rfl))) (mvT hZ (hw _ (List.mem_of_getElem? (i := 31) rfl))) (notFace_of_selects (args := #[]) (mvT hZ (hw _ (List.mem_of_getElem? (i := 33) rfl)))) (mvT hZ (hw _ (List.mem_of_getElem? (i := 33) rfl))) (mvT hZ (hw _ (List.mem_of_getElem? (i := 32) rfl))) (by decide) (backOf (W := 0) (gc l Z a0 hw [] b1 b2_2 b15_2 b30_2 k2_2 k15_2 k30_2 i4 (0 : Int32) (0 : Int32) (0 : Int32) U9 M9 (1 : Int32) T45.heap n0 Zs45 f47 f48 f49 f50 f46 f51 f52 f53) hZ (hw _ (List.mem_of_getElem? (i := 34) rfl)) (hw _ (List.mem_of_getElem? (i := 2) rfl)) (by decide) (by decide)) q56a q56c (g := (mkF m 177 #[.val (.int p0), .val (.int p1), .val (.int p2), .val (.int p3), .val (.int p4), .val (.int (1 : Int32)), .val (.int i1), .val (.int i2), .val (.int i3), .val (.int i4), .val (.ref b1), .val (.ref b2_2), .val (.int (1 : Int32))] [(.ref b1)])) rfl (by rw [hml]; rfl) (Steps.refl _) (argsL := []) (rest := []) (lenOf pd_3 rfl) rfl (by show 2 * 0 + _ ≤ _; exact Nat.le_of_eq rfl) (hb hby at_177) (fun _ _ => ⟨rfl, e55, (by decide : 4 + 0 ≤ _), (by decide : 16 + 0 ≤ _)⟩)
  dsimp only [Pt.U, Pt.locs, Pt.cells, Pt.slots] at X56 l56 y56 z56 st56 hQ56
  subst l56 y56 z56
  obtain ⟨rfl, N56q, eh56⟩ := hQ56
  have N56 := Fr.app N55 N56q
  have e56 : T56.heap = T45.heap := eh56
  obtain ⟨cq57, kq57, q57a, q57b, q57c⟩ := isOf hZ e56 f46
  obtain ⟨_, _, ⟨T57, L57, k57, n57⟩, -, X57, ⟨Lc57, hQ57, l57, y57, z57⟩, st57⟩ := X56.virtualBack hx (y := (⟨"com/example/leeway/leeway/lp/SparseColumn", "rows", "()[I"⟩ : MethodName)) (z := (⟨"com/example/leeway/leeway/lp/SparseColumn", "rows", "()[I"⟩ : MethodName)) hown (mvT hZ (hw _ (List.mem_of_getElem? (i := 40) rfl))) (mvT hZ (hw _ (List.mem_of_getElem? (i := 41) rfl))) (notFace_of_selects (args := #[]) (mvT hZ (hw _ (List.mem_of_getElem? (i := 43) rfl)))) (mvT hZ (hw _ (List.mem_of_getElem? (i := 43) rfl))) (mvT hZ (hw _ (List.mem_of_getElem? (i := 42) rfl))) (by decide) (backOf (W := 0) (gr l Z a0 hw [] b1 b2_2 b15_2 b30_2 k2_2 k15_2 k30_2 i4 (0 : Int32) (0 : Int32) (0 : Int32) U9 M9 (1 : Int32) T45.heap n0 Zs45 f47 f48 f49 f50 f46 f51 f52 f53) hZ (hw _ (List.mem_of_getElem? (i := 44) rfl)) (hw _ (List.mem_of_getElem? (i := 2) rfl)) (by decide) (by decide)) q57a q57c (g := (mkF m 186 #[.val (.int p0), .val (.int p1), .val (.int p2), .val (.int p3), .val (.int p4), .val (.int (1 : Int32)), .val (.int i1), .val (.int i2), .val (.int i3), .val (.int i4), .val (.ref b1), .val (.ref b2_2), .val (.int (1 : Int32))] [(.ref b1)])) rfl (by rw [hml]; rfl) (Steps.refl _) (argsL := []) (rest := []) (lenOf pd_5 rfl) rfl (by show 2 * 0 + _ ≤ _; exact Nat.le_of_eq rfl) (hb hby at_186) (fun _ _ => ⟨rfl, e56, (by decide : 4 + 0 ≤ _), (by decide : 16 + 0 ≤ _)⟩)
  dsimp only [Pt.U, Pt.locs, Pt.cells, Pt.slots] at X57 l57 y57 z57 st57 hQ57
  subst l57 y57 z57
  obtain ⟨rfl, N57q, eh57⟩ := hQ57
  have N57 := Fr.app N56 N57q
  have e57 : T57.heap = T45.heap := eh57
  obtain ⟨cq58, Arq58, -, Sq58, -, Hq58, -⟩ := id f53
  obtain ⟨cq59, Arq59, -, Sq59, -, Hq59, -⟩ := id f51
  obtain ⟨_, _, ⟨T60, L60, k60, n60⟩, -, X60, ⟨Lc60, hQ60, l60, y60, z60⟩, st60⟩ := Jvm.LawKit.callS X57 hx (y := (⟨"com/example/leeway/leeway/lp/SparseColumnClearPinLaw", "zeroUnless", "([DII)Z"⟩ : MethodName)) hown (mvT hZ (hw _ (List.mem_of_getElem? (i := 45) rfl))) (mvT hZ (hw _ (List.mem_of_getElem? (i := 46) rfl))) (mvT hZ (hw _ (List.mem_of_getElem? (i := 47) rfl))) (mvT hZ (hw _ (List.mem_of_getElem? (i := 48) rfl))) (by decide) (backOf (W := 0) (zu l Z a0 hw [] b2_2 k2_2 U9 (0 : Int32) i4 T45.heap n0 Zs45 f51 hix_225 hrd_225 hd9_225) hZ (hw _ (List.mem_of_getElem? (i := 48) rfl)) (hw _ (List.mem_of_getElem? (i := 47) rfl)) (by decide) (by decide)) (g := (mkF m 225 #[.val (.int p0), .val (.int p1), .val (.int p2), .val (.int p3), .val (.int p4), .val (.int (1 : Int32)), .val (.int i1), .val (.int i2), .val (.int i3), .val (.int i4), .val (.ref b1), .val (.ref b2_2), .val (.int (1 : Int32))] [(.int i4), (.int (0 : Int32)), (.ref b2_2)])) rfl (by rw [hml]; rfl) (argsL := [(.ref b2_2), (.int (0 : Int32)), (.int i4)]) (rest := []) (lenOf pd_6 rfl) rfl (by show 2 * 0 + _ ≤ _; exact Nat.le_of_eq rfl) (hb hby at_225) (fun _ _ => ⟨rfl, e57, (by decide : 4 + 0 ≤ _), (by decide : 16 + 0 ≤ _)⟩)
  dsimp only [Pt.U, Pt.locs, Pt.cells, Pt.slots] at X60 l60 y60 z60 st60 hQ60
  subst l60 y60 z60
  obtain ⟨rfl, N60q, eh60⟩ := hQ60
  have N60 := Fr.app N57 N60q
  have e60 : T60.heap = T45.heap := eh60
  obtain ⟨_, _, ⟨T61, L61, k61, n61⟩, -, X61, ⟨Lc61, hQ61, l61, y61, z61⟩, st61⟩ := Jvm.LawKit.callS X60 hx (y := (⟨"com/example/leeway/leeway/lp/SparseColumnClearPinLaw", "zeroUnless", "([DII)Z"⟩ : MethodName)) hown (mvT hZ (hw _ (List.mem_of_getElem? (i := 45) rfl))) (mvT hZ (hw _ (List.mem_of_getElem? (i := 46) rfl))) (mvT hZ (hw _ (List.mem_of_getElem? (i := 47) rfl))) (mvT hZ (hw _ (List.mem_of_getElem? (i := 48) rfl))) (by decide) (backOf (W := 0) (zu l Z a0 hw [] b2_2 k2_2 U9 (1 : Int32) i4 T45.heap n0 Zs45 f51 hix_236 hrd_236 hd9_236) hZ (hw _ (List.mem_of_getElem? (i := 48) rfl)) (hw _ (List.mem_of_getElem? (i := 47) rfl)) (by decide) (by decide)) (g := (mkF m 236 #[.val (.int p0), .val (.int p1), .val (.int p2), .val (.int p3), .val (.int p4), .val (.int (1 : Int32)), .val (.int i1), .val (.int i2), .val (.int i3), .val (.int i4), .val (.ref b1), .val (.ref b2_2), .val (.int (1 : Int32))] [(.int i4), (.int (1 : Int32)), (.ref b2_2)])) rfl (by rw [hml]; rfl) (argsL := [(.ref b2_2), (.int (1 : Int32)), (.int i4)]) (rest := []) (lenOf pd_6 rfl) rfl (by show 2 * 0 + _ ≤ _; exact Nat.le_of_eq rfl) (hb hby at_236) (fun _ _ => ⟨rfl, e60, (by decide : 4 + 0 ≤ _), (by decide : 16 + 0 ≤ _)⟩)
  dsimp only [Pt.U, Pt.locs, Pt.cells, Pt.slots] at X61 l61 y61 z61 st61 hQ61
  subst l61 y61 z61
  obtain ⟨rfl, N61q, eh61⟩ := hQ61
  have N61 := Fr.app N60 N61q
  have e61 : T61.heap = T45.heap := eh61
  obtain ⟨_, _, ⟨T62, L62, k62, n62⟩, -, X62, ⟨Lc62, hQ62, l62, y62, z62⟩, st62⟩ := Jvm.LawKit.callS X61 hx (y := (⟨"com/example/leeway/leeway/lp/SparseColumnClearPinLaw", "zeroUnless", "([DII)Z"⟩ : MethodName)) hown (mvT hZ (hw _ (List.mem_of_getElem? (i := 45) rfl))) (mvT hZ (hw _ (List.mem_of_getElem? (i := 46) rfl))) (mvT hZ (hw _ (List.mem_of_getElem? (i := 47) rfl))) (mvT hZ (hw _ (List.mem_of_getElem? (i := 48) rfl))) (by decide) (backOf (W := 0) (zu l Z a0 hw [] b2_2 k2_2 U9 (2 : Int32) i4 T45.heap n0 Zs45 f51 hix_247 hrd_247 hd9_247) hZ (hw _ (List.mem_of_getElem? (i := 48) rfl)) (hw _ (List.mem_of_getElem? (i := 47) rfl)) (by decide) (by decide)) (g := (mkF m 247 #[.val (.int p0), .val (.int p1), .val (.int p2), .val (.int p3), .val (.int p4), .val (.int (1 : Int32)), .val (.int i1), .val (.int i2), .val (.int i3), .val (.int i4), .val (.ref b1), .val (.ref b2_2), .val (.int (1 : Int32))] [(.int i4), (.int (2 : Int32)), (.ref b2_2)])) rfl (by rw [hml]; rfl) (argsL := [(.ref b2_2), (.int (2 : Int32)), (.int i4)]) (rest := []) (lenOf pd_6 rfl) rfl (by show 2 * 0 + _ ≤ _; exact Nat.le_of_eq rfl) (hb hby at_247) (fun _ _ => ⟨rfl, e61, (by decide : 4 + 0 ≤ _), (by decide : 16 + 0 ≤ _)⟩)
  dsimp only [Pt.U, Pt.locs, Pt.cells, Pt.slots] at X62 l62 y62 z62 st62 hQ62
  subst l62 y62 z62
  obtain ⟨rfl, N62q, eh62⟩ := hQ62
  have N62 := Fr.app N61 N62q
  have e62 : T62.heap = T45.heap := eh62
  obtain ⟨_, _, ⟨T63, L63, k63, n63⟩, -, X63, ⟨Lc63, hQ63, l63, y63, z63⟩, st63⟩ := Jvm.LawKit.callS X62 hx (y := (⟨"com/example/leeway/leeway/lp/SparseColumnClearPinLaw", "zeroUnless", "([DII)Z"⟩ : MethodName)) hown (mvT hZ (hw _ (List.mem_of_getElem? (i := 45) rfl))) (mvT hZ (hw _ (List.mem_of_getElem? (i := 46) rfl))) (mvT hZ (hw _ (List.mem_of_getElem? (i := 47) rfl))) (mvT hZ (hw _ (List.mem_of_getElem? (i := 48) rfl))) (by decide) (backOf (W := 0) (zu l Z a0 hw [] b2_2 k2_2 U9 (3 : Int32) i4 T45.heap n0 Zs45 f51 hix_258 hrd_258 hd9_258) hZ (hw _ (List.mem_of_getElem? (i := 48) rfl)) (hw _ (List.mem_of_getElem? (i := 47) rfl)) (by decide) (by decide)) (g := (mkF m 258 #[.val (.int p0), .val (.int p1), .val (.int p2), .val (.int p3), .val (.int p4), .val (.int (1 : Int32)), .val (.int i1), .val (.int i2), .val (.int i3), .val (.int i4), .val (.ref b1), .val (.ref b2_2), .val (.int (1 : Int32))] [(.int i4), (.int (3 : Int32)), (.ref b2_2)])) rfl (by rw [hml]; rfl) (argsL := [(.ref b2_2), (.int (3 : Int32)), (.int i4)]) (rest := []) (lenOf pd_6 rfl) rfl (by show 2 * 0 + _ ≤ _; exact Nat.le_of_eq rfl) (hb hby at_258) (fun _ _ => ⟨rfl, e62, (by decide : 4 + 0 ≤ _), (by decide : 16 + 0 ≤ _)⟩)
  dsimp only [Pt.U, Pt.locs, Pt.cells, Pt.slots] at X63 l63 y63 z63 st63 hQ63
  subst l63 y63 z63
  obtain ⟨rfl, N63q, eh63⟩ := hQ63
  have N63 := Fr.app N62 N63q
  have e63 : T63.heap = T45.heap := eh63
  obtain ⟨fs, hr, hrun, hended, hW, hsame⟩ := X63.leave (v := some (.int (1 : Int32))) (fun h => by rw [Bd.returns] at h; cases h)
  refine ⟨_, _, pre0 _ ?_, hrun, hended, _, _, rfl, ?_, ⟨_, rfl⟩, hW, hsame.mono (by decide) (by decide)⟩
  · show Steps p.tables e below (s₁.setTop (mkF m 0 #[.val (.int p0), .val (.int p1), .val (.int p2), .val (.int p3), .val (.int p4), .unset, .unset, .unset, .unset, .unset, .unset, .unset, .unset] [])) _
    refine XS.iloadN X0.here hx rfl (hb hby at_0) rfl ?_
    refine XS.iconst X0.here hx rfl (hb hby at_1) ?_
    refine XS.iand X0.here hx rfl (hb hby at_2) rfl ?_
    show Steps p.tables e below (s₁.setTop (mkF m 3 #[.val (.int p0), .val (.int p1), .val (.int p2), .val (.int p3), .val (.int p4), .unset, .unset, .unset, .unset, .unset, .unset, .unset, .unset] [(.int (p0 &&& (3 : Int32)))])) _
    rw [hv2]
    show Steps p.tables e below (s₁.setTop (mkF m 3 #[.val (.int p0), .val (.int p1), .val (.int p2), .val (.int p3), .val (.int p4), .unset, .unset, .unset, .unset, .unset, .unset, .unset, .unset] [(.int (1 : Int32))])) _
    refine XS.istore X0.here hx rfl (hb hby at_3) rfl (l' := #[.val (.int p0), .val (.int p1), .val (.int p2), .val (.int p3), .val (.int p4), .val (.int (1 : Int32)), .unset, .unset, .unset, .unset, .unset, .unset, .unset]) rfl ?_
    show Steps p.tables e below (s₁.setTop (mkF m 5 #[.val (.int p0), .val (.int p1), .val (.int p2), .val (.int p3), .val (.int p4), .val (.int (1 : Int32)), .unset, .unset, .unset, .unset, .unset, .unset, .unset] [])) _
    refine XS.iloadN X0.here hx rfl (hb hby at_5) rfl ?_
    refine XS.iconst X0.here hx rfl (hb hby at_6) ?_
    refine XS.iushr X0.here hx rfl (hb hby at_7) rfl ?_
    refine XS.iconst X0.here hx rfl (hb hby at_8) ?_
    refine XS.iand X0.here hx rfl (hb hby at_9) rfl ?_
    show Steps p.tables e below (s₁.setTop (mkF m 10 #[.val (.int p0), .val (.int p1), .val (.int p2), .val (.int p3), .val (.int p4), .val (.int (1 : Int32)), .unset, .unset, .unset, .unset, .unset, .unset, .unset] [(.int (((p0.toUInt32 >>> ((2 : Int32) &&& 31).toUInt32).toInt32) &&& (3 : Int32)))])) _
    rw [hv9]
    show Steps p.tables e below (s₁.setTop (mkF m 10 #[.val (.int p0), .val (.int p1), .val (.int p2), .val (.int p3), .val (.int p4), .val (.int (1 : Int32)), .unset, .unset, .unset, .unset, .unset, .unset, .unset] [(.int i1)])) _
    refine XS.istore X0.here hx rfl (hb hby at_10) rfl (l' := #[.val (.int p0), .val (.int p1), .val (.int p2), .val (.int p3), .val (.int p4), .val (.int (1 : Int32)), .val (.int i1), .unset, .unset, .unset, .unset, .unset, .unset]) rfl ?_
    refine XS.iloadN X0.here hx rfl (hb hby at_12) rfl ?_
    refine XS.iconst X0.here hx rfl (hb hby at_13) ?_
    refine XS.iushr X0.here hx rfl (hb hby at_14) rfl ?_
    refine XS.iconst X0.here hx rfl (hb hby at_15) ?_
    refine XS.iand X0.here hx rfl (hb hby at_16) rfl ?_
    show Steps p.tables e below (s₁.setTop (mkF m 17 #[.val (.int p0), .val (.int p1), .val (.int p2), .val (.int p3), .val (.int p4), .val (.int (1 : Int32)), .val (.int i1), .unset, .unset, .unset, .unset, .unset, .unset] [(.int (((p0.toUInt32 >>> ((4 : Int32) &&& 31).toUInt32).toInt32) &&& (3 : Int32)))])) _
    rw [hv16]
    show Steps p.tables e below (s₁.setTop (mkF m 17 #[.val (.int p0), .val (.int p1), .val (.int p2), .val (.int p3), .val (.int p4), .val (.int (1 : Int32)), .val (.int i1), .unset, .unset, .unset, .unset, .unset, .unset] [(.int i2)])) _
    refine XS.istore X0.here hx rfl (hb hby at_17) rfl (l' := #[.val (.int p0), .val (.int p1), .val (.int p2), .val (.int p3), .val (.int p4), .val (.int (1 : Int32)), .val (.int i1), .val (.int i2), .unset, .unset, .unset, .unset, .unset]) rfl ?_
    refine XS.iloadN X0.here hx rfl (hb hby at_19) rfl ?_
    refine XS.bipush X0.here hx rfl (hb hby at_20) ?_
    refine XS.iushr X0.here hx rfl (hb hby at_22) rfl ?_
    refine XS.iconst X0.here hx rfl (hb hby at_23) ?_
    show Steps p.tables e below (s₁.setTop (mkF m 24 #[.val (.int p0), .val (.int p1), .val (.int p2), .val (.int p3), .val (.int p4), .val (.int (1 : Int32)), .val (.int i1), .val (.int i2), .unset, .unset, .unset, .unset, .unset] [(.int (3 : Int32)), (.int ((p0.toUInt32 >>> ((6 : Int32) &&& 31).toUInt32).toInt32))])) _
    refine XS.iand X0.here hx rfl (hb hby at_24) rfl ?_
    show Steps p.tables e below (s₁.setTop (mkF m 25 #[.val (.int p0), .val (.int p1), .val (.int p2), .val (.int p3), .val (.int p4), .val (.int (1 : Int32)), .val (.int i1), .val (.int i2), .unset, .unset, .unset, .unset, .unset] [(.int (((p0.toUInt32 >>> ((6 : Int32) &&& 31).toUInt32).toInt32) &&& (3 : Int32)))])) _
    rw [hv24]
    show Steps p.tables e below (s₁.setTop (mkF m 25 #[.val (.int p0), .val (.int p1), .val (.int p2), .val (.int p3), .val (.int p4), .val (.int (1 : Int32)), .val (.int i1), .val (.int i2), .unset, .unset, .unset, .unset, .unset] [(.int i3)])) _
    refine XS.istore X0.here hx rfl (hb hby at_25) rfl (l' := #[.val (.int p0), .val (.int p1), .val (.int p2), .val (.int p3), .val (.int p4), .val (.int (1 : Int32)), .val (.int i1), .val (.int i2), .val (.int i3), .unset, .unset, .unset, .unset]) rfl ?_
    refine XS.iloadN X0.here hx rfl (hb hby at_27) rfl ?_
    refine XS.bipush X0.here hx rfl (hb hby at_28) ?_
    refine XS.iushr X0.here hx rfl (hb hby at_30) rfl ?_
    show Steps p.tables e below (s₁.setTop (mkF m 31 #[.val (.int p0), .val (.int p1), .val (.int p2), .val (.int p3), .val (.int p4), .val (.int (1 : Int32)), .val (.int i1), .val (.int i2), .val (.int i3), .unset, .unset, .unset, .unset] [(.int ((p0.toUInt32 >>> ((8 : Int32) &&& 31).toUInt32).toInt32))])) _
    refine XS.iconst X0.here hx rfl (hb hby at_31) ?_
    refine XS.iand X0.here hx rfl (hb hby at_32) rfl ?_
    show Steps p.tables e below (s₁.setTop (mkF m 33 #[.val (.int p0), .val (.int p1), .val (.int p2), .val (.int p3), .val (.int p4), .val (.int (1 : Int32)), .val (.int i1), .val (.int i2), .val (.int i3), .unset, .unset, .unset, .unset] [(.int (((p0.toUInt32 >>> ((8 : Int32) &&& 31).toUInt32).toInt32) &&& (3 : Int32)))])) _
    rw [hv32]
    show Steps p.tables e below (s₁.setTop (mkF m 33 #[.val (.int p0), .val (.int p1), .val (.int p2), .val (.int p3), .val (.int p4), .val (.int (1 : Int32)), .val (.int i1), .val (.int i2), .val (.int i3), .unset, .unset, .unset, .unset] [(.int i4)])) _
    refine XS.istore X0.here hx rfl (hb hby at_33) rfl (l' := #[.val (.int p0), .val (.int p1), .val (.int p2), .val (.int p3), .val (.int p4), .val (.int (1 : Int32)), .val (.int i1), .val (.int i2), .val (.int i3), .val (.int i4), .unset, .unset, .unset]) rfl ?_
    refine st1 _ ?_
    show Steps p.tables e below (T1.setTop (mkF m 38 #[.val (.int p0), .val (.int p1), .val (.int p2), .val (.int p3), .val (.int p4), .val (.int (1 : Int32)), .val (.int i1), .val (.int i2), .val (.int i3), .val (.int i4), .unset, .unset, .unset] [(.ref b1)])) _
    refine XS.dup X1.here hx rfl (hb hby at_38) rfl rfl ?_
    show Steps p.tables e below (T1.setTop (mkF m 39 #[.val (.int p0), .val (.int p1), .val (.int p2), .val (.int p3), .val (.int p4), .val (.int (1 : Int32)), .val (.int i1), .val (.int i2), .val (.int i3), .val (.int i4), .unset, .unset, .unset] [(.ref b1), (.ref b1)])) _
    refine XS.iconst X1.here hx rfl (hb hby at_39) ?_
    refine st2.trans ?_
    show Steps p.tables e below (T2.setTop (mkF m 43 #[.val (.int p0), .val (.int p1), .val (.int p2), .val (.int p3), .val (.int p4), .val (.int (1 : Int32)), .val (.int i1), .val (.int i2), .val (.int i3), .val (.int i4), .unset, .unset, .unset] [(.ref b1)])) _
    refine XS.astore X2.here hx rfl (hb hby at_43) rfl rfl (l' := #[.val (.int p0), .val (.int p1), .val (.int p2), .val (.int p3), .val (.int p4), .val (.int (1 : Int32)), .val (.int i1), .val (.int i2), .val (.int i3), .val (.int i4), .val (.ref b1), .unset, .unset]) rfl ?_
    refine XS.iload X2.here hx rfl (hb hby at_45) rfl ?_
    refine XS.iconst X2.here hx rfl (hb hby at_47) ?_
    refine XS.icmpNo X2.here hx rfl (hb hby at_48) rfl (flt (by decide : ¬ ((1 : Int32) < (1 : Int32)))).1 ?_
    show Steps p.tables e below (T2.setTop (mkF m 51 #[.val (.int p0), .val (.int p1), .val (.int p2), .val (.int p3), .val (.int p4), .val (.int (1 : Int32)), .val (.int i1), .val (.int i2), .val (.int i3), .val (.int i4), .val (.ref b1), .unset, .unset] [])) _
    refine XS.aload X2.here hx rfl (hb hby at_51) rfl rfl ?_
    refine XS.iload X2.here hx rfl (hb hby at_53) rfl ?_
    refine XS.iloadN X2.here hx rfl (hb hby at_55) rfl ?_
    refine XS.i2dS X2.here hx rfl (hb hby at_56) rfl (v := (FP.i2d p1)) rfl ?_
    refine st18.trans ?_
    show Steps p.tables e below (T18.setTop (mkF m 60 #[.val (.int p0), .val (.int p1), .val (.int p2), .val (.int p3), .val (.int p4), .val (.int (1 : Int32)), .val (.int i1), .val (.int i2), .val (.int i3), .val (.int i4), .val (.ref b1), .unset, .unset] [])) _
    refine XS.iload X18.here hx rfl (hb hby at_60) rfl ?_
    show Steps p.tables e below (T18.setTop (mkF m 62 #[.val (.int p0), .val (.int p1), .val (.int p2), .val (.int p3), .val (.int p4), .val (.int (1 : Int32)), .val (.int i1), .val (.int i2), .val (.int i3), .val (.int i4), .val (.ref b1), .unset, .unset] [(.int (1 : Int32))])) _
    refine XS.iconst X18.here hx rfl (hb hby at_62) ?_
    refine XS.icmpYes X18.here hx rfl (pc0 := 63) (pc' := 75) rfl (hb hby at_63) rfl (tlt (by decide : (1 : Int32) < (2 : Int32))).1 (by decide) (by decide) ?_
    refine XS.iload X18.here hx rfl (hb hby at_75) rfl ?_
    refine XS.iconst X18.here hx rfl (hb hby at_77) ?_
    refine XS.icmpYes X18.here hx rfl (pc0 := 78) (pc' := 90) rfl (hb hby at_78) rfl (tlt (by decide : (1 : Int32) < (3 : Int32))).1 (by decide) (by decide) ?_
    refine XS.aload X18.here hx rfl (hb hby at_90) rfl rfl ?_
    show Steps p.tables e below (T18.setTop (mkF m 92 #[.val (.int p0), .val (.int p1), .val (.int p2), .val (.int p3), .val (.int p4), .val (.int (1 : Int32)), .val (.int i1), .val (.int i2), .val (.int i3), .val (.int i4), .val (.ref b1), .unset, .unset] [(.ref b1)])) _
    refine st28.trans ?_
    show Steps p.tables e below (T28.setTop (mkF m 95 #[.val (.int p0), .val (.int p1), .val (.int p2), .val (.int p3), .val (.int p4), .val (.int (1 : Int32)), .val (.int i1), .val (.int i2), .val (.int i3), .val (.int i4), .val (.ref b1), .unset, .unset] [])) _
    refine XS.aload X28.here hx rfl (hb hby at_95) rfl rfl ?_
    refine st39.trans ?_
    show Steps p.tables e below (T39.setTop (mkF m 100 #[.val (.int p0), .val (.int p1), .val (.int p2), .val (.int p3), .val (.int p4), .val (.int (1 : Int32)), .val (.int i1), .val (.int i2), .val (.int i3), .val (.int i4), .val (.ref b1), .unset, .unset] [(.ref b2_2)])) _
    refine XS.astore X39.here hx rfl (hb hby at_100) rfl rfl (l' := #[.val (.int p0), .val (.int p1), .val (.int p2), .val (.int p3), .val (.int p4), .val (.int (1 : Int32)), .val (.int i1), .val (.int i2), .val (.int i3), .val (.int i4), .val (.ref b1), .val (.ref b2_2), .unset]) rfl ?_
    refine XS.aload X39.here hx rfl (hb hby at_102) rfl rfl ?_
    refine st40.trans ?_
    show Steps p.tables e below (T40.setTop (mkF m 107 #[.val (.int p0), .val (.int p1), .val (.int p2), .val (.int p3), .val (.int p4), .val (.int (1 : Int32)), .val (.int i1), .val (.int i2), .val (.int i3), .val (.int i4), .val (.ref b1), .val (.ref b2_2), .unset] [(.int (0 : Int32))])) _
    refine XS.ifNo X40.here hx rfl (hb hby at_107) rfl ((if0 _ _).trans (teq (by decide : (0 : Int32) = (0 : Int32))).2) ?_
    refine XS.aload X40.here hx rfl (hb hby at_110) rfl rfl ?_
    refine XS.iconst X40.here hx rfl (hb hby at_112) ?_
    refine X40.daload hx (j := (0 : Int32)) (v := (.double (0 : UInt64))) (by rw [e40]; exact Arq41.1) (State.isArrayOf_alike hZ.alike Arq41.2.1) Arq41.2.2 (inb_of Sq41 ⟨by decide, by decide⟩) (Has.at Hq41 (inb_of Sq41 ⟨by decide, by decide⟩) rfl) (g := (mkF m 113 #[.val (.int p0), .val (.int p1), .val (.int p2), .val (.int p3), .val (.int p4), .val (.int (1 : Int32)), .val (.int i1), .val (.int i2), .val (.int i3), .val (.int i4), .val (.ref b1), .val (.ref b2_2), .unset] [(.int (0 : Int32)), (.ref b2_2)])) rfl rfl (hb hby at_113) _ ?_
    show Steps p.tables e below (T40.setTop (mkF m 114 #[.val (.int p0), .val (.int p1), .val (.int p2), .val (.int p3), .val (.int p4), .val (.int (1 : Int32)), .val (.int i1), .val (.int i2), .val (.int i3), .val (.int i4), .val (.ref b1), .val (.ref b2_2), .unset] [(.double (0 : UInt64))])) _
    refine XS.dconst0 X40.here hx rfl (hb hby at_114) (v := (0 : UInt64)) rfl ?_
    refine XS.dcmpS X40.here hx rfl (hb hby at_115) rfl (v := (0 : Int32)) hd115 ?_
    show Steps p.tables e below (T40.setTop (mkF m 116 #[.val (.int p0), .val (.int p1), .val (.int p2), .val (.int p3), .val (.int p4), .val (.int (1 : Int32)), .val (.int i1), .val (.int i2), .val (.int i3), .val (.int i4), .val (.ref b1), .val (.ref b2_2), .unset] [(.int (0 : Int32))])) _
    refine XS.ifNo X40.here hx rfl (hb hby at_116) rfl ((if0 _ _).trans (teq (by decide : (0 : Int32) = (0 : Int32))).2) ?_
    refine XS.aload X40.here hx rfl (hb hby at_119) rfl rfl ?_
    refine XS.iconst X40.here hx rfl (hb hby at_121) ?_
    refine X40.daload hx (j := (1 : Int32)) (v := (.double (0 : UInt64))) (by rw [e40]; exact Arq42.1) (State.isArrayOf_alike hZ.alike Arq42.2.1) Arq42.2.2 (inb_of Sq42 ⟨by decide, by decide⟩) (Has.at Hq42 (inb_of Sq42 ⟨by decide, by decide⟩) rfl) (g := (mkF m 122 #[.val (.int p0), .val (.int p1), .val (.int p2), .val (.int p3), .val (.int p4), .val (.int (1 : Int32)), .val (.int i1), .val (.int i2), .val (.int i3), .val (.int i4), .val (.ref b1), .val (.ref b2_2), .unset] [(.int (1 : Int32)), (.ref b2_2)])) rfl rfl (hb hby at_122) _ ?_
    show Steps p.tables e below (T40.setTop (mkF m 123 #[.val (.int p0), .val (.int p1), .val (.int p2), .val (.int p3), .val (.int p4), .val (.int (1 : Int32)), .val (.int i1), .val (.int i2), .val (.int i3), .val (.int i4), .val (.ref b1), .val (.ref b2_2), .unset] [(.double (0 : UInt64))])) _
    refine XS.dconst0 X40.here hx rfl (hb hby at_123) (v := (0 : UInt64)) rfl ?_
    refine XS.dcmpS X40.here hx rfl (hb hby at_124) rfl (v := (0 : Int32)) hd124 ?_
    show Steps p.tables e below (T40.setTop (mkF m 125 #[.val (.int p0), .val (.int p1), .val (.int p2), .val (.int p3), .val (.int p4), .val (.int (1 : Int32)), .val (.int i1), .val (.int i2), .val (.int i3), .val (.int i4), .val (.ref b1), .val (.ref b2_2), .unset] [(.int (0 : Int32))])) _
    refine XS.ifNo X40.here hx rfl (hb hby at_125) rfl ((if0 _ _).trans (teq (by decide : (0 : Int32) = (0 : Int32))).2) ?_
    refine XS.aload X40.here hx rfl (hb hby at_128) rfl rfl ?_
    refine XS.iconst X40.here hx rfl (hb hby at_130) ?_
    refine X40.daload hx (j := (2 : Int32)) (v := (.double (0 : UInt64))) (by rw [e40]; exact Arq43.1) (State.isArrayOf_alike hZ.alike Arq43.2.1) Arq43.2.2 (inb_of Sq43 ⟨by decide, by decide⟩) (Has.at Hq43 (inb_of Sq43 ⟨by decide, by decide⟩) rfl) (g := (mkF m 131 #[.val (.int p0), .val (.int p1), .val (.int p2), .val (.int p3), .val (.int p4), .val (.int (1 : Int32)), .val (.int i1), .val (.int i2), .val (.int i3), .val (.int i4), .val (.ref b1), .val (.ref b2_2), .unset] [(.int (2 : Int32)), (.ref b2_2)])) rfl rfl (hb hby at_131) _ ?_
    show Steps p.tables e below (T40.setTop (mkF m 132 #[.val (.int p0), .val (.int p1), .val (.int p2), .val (.int p3), .val (.int p4), .val (.int (1 : Int32)), .val (.int i1), .val (.int i2), .val (.int i3), .val (.int i4), .val (.ref b1), .val (.ref b2_2), .unset] [(.double (0 : UInt64))])) _
    refine XS.dconst0 X40.here hx rfl (hb hby at_132) (v := (0 : UInt64)) rfl ?_
    refine XS.dcmpS X40.here hx rfl (hb hby at_133) rfl (v := (0 : Int32)) hd133 ?_
    show Steps p.tables e below (T40.setTop (mkF m 134 #[.val (.int p0), .val (.int p1), .val (.int p2), .val (.int p3), .val (.int p4), .val (.int (1 : Int32)), .val (.int i1), .val (.int i2), .val (.int i3), .val (.int i4), .val (.ref b1), .val (.ref b2_2), .unset] [(.int (0 : Int32))])) _
    refine XS.ifNo X40.here hx rfl (hb hby at_134) rfl ((if0 _ _).trans (teq (by decide : (0 : Int32) = (0 : Int32))).2) ?_
    refine XS.aload X40.here hx rfl (hb hby at_137) rfl rfl ?_
    refine XS.iconst X40.here hx rfl (hb hby at_139) ?_
    refine X40.daload hx (j := (3 : Int32)) (v := (.double (0 : UInt64))) (by rw [e40]; exact Arq44.1) (State.isArrayOf_alike hZ.alike Arq44.2.1) Arq44.2.2 (inb_of Sq44 ⟨by decide, by decide⟩) (Has.at Hq44 (inb_of Sq44 ⟨by decide, by decide⟩) rfl) (g := (mkF m 140 #[.val (.int p0), .val (.int p1), .val (.int p2), .val (.int p3), .val (.int p4), .val (.int (1 : Int32)), .val (.int i1), .val (.int i2), .val (.int i3), .val (.int i4), .val (.ref b1), .val (.ref b2_2), .unset] [(.int (3 : Int32)), (.ref b2_2)])) rfl rfl (hb hby at_140) _ ?_
    show Steps p.tables e below (T40.setTop (mkF m 141 #[.val (.int p0), .val (.int p1), .val (.int p2), .val (.int p3), .val (.int p4), .val (.int (1 : Int32)), .val (.int i1), .val (.int i2), .val (.int i3), .val (.int i4), .val (.ref b1), .val (.ref b2_2), .unset] [(.double (0 : UInt64))])) _
    refine XS.dconst0 X40.here hx rfl (hb hby at_141) (v := (0 : UInt64)) rfl ?_
    refine XS.dcmpS X40.here hx rfl (hb hby at_142) rfl (v := (0 : Int32)) hd142 ?_
    show Steps p.tables e below (T40.setTop (mkF m 143 #[.val (.int p0), .val (.int p1), .val (.int p2), .val (.int p3), .val (.int p4), .val (.int (1 : Int32)), .val (.int i1), .val (.int i2), .val (.int i3), .val (.int i4), .val (.ref b1), .val (.ref b2_2), .unset] [(.int (0 : Int32))])) _
    refine XS.ifNo X40.here hx rfl (hb hby at_143) rfl ((if0 _ _).trans (teq (by decide : (0 : Int32) = (0 : Int32))).2) ?_
    refine XS.iconst X40.here hx rfl (hb hby at_146) ?_
    refine XS.goto X40.here hx rfl (pc0 := 147) (pc' := 151) rfl (hb hby at_147) (by decide) (by decide) ?_
    refine XS.istore X40.here hx rfl (hb hby at_151) rfl (l' := #[.val (.int p0), .val (.int p1), .val (.int p2), .val (.int p3), .val (.int p4), .val (.int (1 : Int32)), .val (.int i1), .val (.int i2), .val (.int i3), .val (.int i4), .val (.ref b1), .val (.ref b2_2), .val (.int (1 : Int32))]) rfl ?_
    refine XS.aload X40.here hx rfl (hb hby at_153) rfl rfl ?_
    refine XS.iload X40.here hx rfl (hb hby at_155) rfl ?_
    show Steps p.tables e below (T40.setTop (mkF m 157 #[.val (.int p0), .val (.int p1), .val (.int p2), .val (.int p3), .val (.int p4), .val (.int (1 : Int32)), .val (.int i1), .val (.int i2), .val (.int i3), .val (.int i4), .val (.ref b1), .val (.ref b2_2), .val (.int (1 : Int32))] [(.int i4), (.ref b1)])) _
    refine XS.iload X40.here hx rfl (hb hby at_157) rfl ?_
    refine XS.i2dS X40.here hx rfl (hb hby at_159) rfl (v := (FP.i2d p4)) rfl ?_
    refine st45.trans ?_
    show Steps p.tables e below (T45.setTop (mkF m 163 #[.val (.int p0), .val (.int p1), .val (.int p2), .val (.int p3), .val (.int p4), .val (.int (1 : Int32)), .val (.int i1), .val (.int i2), .val (.int i3), .val (.int i4), .val (.ref b1), .val (.ref b2_2), .val (.int (1 : Int32))] [])) _
    refine XS.aload X45.here hx rfl (hb hby at_163) rfl rfl ?_
    refine st55.trans ?_
    show Steps p.tables e below (T55.setTop (mkF m 168 #[.val (.int p0), .val (.int p1), .val (.int p2), .val (.int p3), .val (.int p4), .val (.int (1 : Int32)), .val (.int i1), .val (.int i2), .val (.int i3), .val (.int i4), .val (.ref b1), .val (.ref b2_2), .val (.int (1 : Int32))] [(.ref b2_2)])) _
    refine XS.astore X55.here hx rfl (hb hby at_168) rfl rfl (l' := #[.val (.int p0), .val (.int p1), .val (.int p2), .val (.int p3), .val (.int p4), .val (.int (1 : Int32)), .val (.int i1), .val (.int i2), .val (.int i3), .val (.int i4), .val (.ref b1), .val (.ref b2_2), .val (.int (1 : Int32))]) rfl ?_
    show Steps p.tables e below (T55.setTop (mkF m 170 #[.val (.int p0), .val (.int p1), .val (.int p2), .val (.int p3), .val (.int p4), .val (.int (1 : Int32)), .val (.int i1), .val (.int i2), .val (.int i3), .val (.int i4), .val (.ref b1), .val (.ref b2_2), .val (.int (1 : Int32))] [])) _
    refine XS.iload X55.here hx rfl (hb hby at_170) rfl ?_
    refine XS.ifNo X55.here hx rfl (hb hby at_172) rfl ((if0 _ _).trans (feq (by decide : ¬ ((1 : Int32) = (0 : Int32)))).1) ?_
    refine XS.aload X55.here hx rfl (hb hby at_175) rfl rfl ?_
    refine st56.trans ?_
    show Steps p.tables e below (T56.setTop (mkF m 180 #[.val (.int p0), .val (.int p1), .val (.int p2), .val (.int p3), .val (.int p4), .val (.int (1 : Int32)), .val (.int i1), .val (.int i2), .val (.int i3), .val (.int i4), .val (.ref b1), .val (.ref b2_2), .val (.int (1 : Int32))] [(.int (1 : Int32))])) _
    refine XS.iconst X56.here hx rfl (hb hby at_180) ?_
    refine XS.icmpNo X56.here hx rfl (hb hby at_181) rfl (teq (by decide : (1 : Int32) = (1 : Int32))).2 ?_
    show Steps p.tables e below (T56.setTop (mkF m 184 #[.val (.int p0), .val (.int p1), .val (.int p2), .val (.int p3), .val (.int p4), .val (.int (1 : Int32)), .val (.int i1), .val (.int i2), .val (.int i3), .val (.int i4), .val (.ref b1), .val (.ref b2_2), .val (.int (1 : Int32))] [])) _
    refine XS.aload X56.here hx rfl (hb hby at_184) rfl rfl ?_
    refine st57.trans ?_
    show Steps p.tables e below (T57.setTop (mkF m 189 #[.val (.int p0), .val (.int p1), .val (.int p2), .val (.int p3), .val (.int p4), .val (.int (1 : Int32)), .val (.int i1), .val (.int i2), .val (.int i3), .val (.int i4), .val (.ref b1), .val (.ref b2_2), .val (.int (1 : Int32))] [(.ref b30_2)])) _
    refine XS.iconst X57.here hx rfl (hb hby at_189) ?_
    refine X57.iaload hx (j := (0 : Int32)) (v := (.int i4)) (by rw [e57]; exact Arq58.1) (State.isArrayOf_alike hZ.alike Arq58.2.1) Arq58.2.2 (inb_of Sq58 ⟨by decide, by decide⟩) (Has.at Hq58 (inb_of Sq58 ⟨by decide, by decide⟩) rfl) (g := (mkF m 190 #[.val (.int p0), .val (.int p1), .val (.int p2), .val (.int p3), .val (.int p4), .val (.int (1 : Int32)), .val (.int i1), .val (.int i2), .val (.int i3), .val (.int i4), .val (.ref b1), .val (.ref b2_2), .val (.int (1 : Int32))] [(.int (0 : Int32)), (.ref b30_2)])) rfl rfl (hb hby at_190) _ ?_
    show Steps p.tables e below (T57.setTop (mkF m 191 #[.val (.int p0), .val (.int p1), .val (.int p2), .val (.int p3), .val (.int p4), .val (.int (1 : Int32)), .val (.int i1), .val (.int i2), .val (.int i3), .val (.int i4), .val (.ref b1), .val (.ref b2_2), .val (.int (1 : Int32))] [(.int i4)])) _
    refine XS.iload X57.here hx rfl (hb hby at_191) rfl ?_
    refine XS.icmpNo X57.here hx rfl (hb hby at_193) rfl (teq (rfl : i4 = i4)).2 ?_
    show Steps p.tables e below (T57.setTop (mkF m 196 #[.val (.int p0), .val (.int p1), .val (.int p2), .val (.int p3), .val (.int p4), .val (.int (1 : Int32)), .val (.int i1), .val (.int i2), .val (.int i3), .val (.int i4), .val (.ref b1), .val (.ref b2_2), .val (.int (1 : Int32))] [])) _
    refine XS.aload X57.here hx rfl (hb hby at_196) rfl rfl ?_
    refine XS.iload X57.here hx rfl (hb hby at_198) rfl ?_
    refine X57.daload hx (j := i4) (v := (.double y9)) (by rw [e57]; exact Arq59.1) (State.isArrayOf_alike hZ.alike Arq59.2.1) Arq59.2.2 (inb_of Sq59 hix4) (Has.at Hq59 (inb_of Sq59 hix4) hr200) (g := (mkF m 200 #[.val (.int p0), .val (.int p1), .val (.int p2), .val (.int p3), .val (.int p4), .val (.int (1 : Int32)), .val (.int i1), .val (.int i2), .val (.int i3), .val (.int i4), .val (.ref b1), .val (.ref b2_2), .val (.int (1 : Int32))] [(.int i4), (.ref b2_2)])) rfl rfl (hb hby at_200) _ ?_
    show Steps p.tables e below (T57.setTop (mkF m 201 #[.val (.int p0), .val (.int p1), .val (.int p2), .val (.int p3), .val (.int p4), .val (.int (1 : Int32)), .val (.int i1), .val (.int i2), .val (.int i3), .val (.int i4), .val (.ref b1), .val (.ref b2_2), .val (.int (1 : Int32))] [(.double y9)])) _
    refine XS.iload X57.here hx rfl (hb hby at_201) rfl ?_
    refine XS.i2dS X57.here hx rfl (hb hby at_203) rfl (v := (FP.i2d p4)) rfl ?_
    refine XS.dcmpS X57.here hx rfl (hb hby at_204) rfl (v := (0 : Int32)) hd204 ?_
    show Steps p.tables e below (T57.setTop (mkF m 205 #[.val (.int p0), .val (.int p1), .val (.int p2), .val (.int p3), .val (.int p4), .val (.int (1 : Int32)), .val (.int i1), .val (.int i2), .val (.int i3), .val (.int i4), .val (.ref b1), .val (.ref b2_2), .val (.int (1 : Int32))] [(.int (0 : Int32))])) _
    refine XS.ifNo X57.here hx rfl (hb hby at_205) rfl ((if0 _ _).trans (teq (by decide : (0 : Int32) = (0 : Int32))).2) ?_
    refine XS.iconst X57.here hx rfl (hb hby at_208) ?_
    refine XS.goto X57.here hx rfl (pc0 := 209) (pc' := 213) rfl (hb hby at_209) (by decide) (by decide) ?_
    refine XS.istore X57.here hx rfl (hb hby at_213) rfl (l' := #[.val (.int p0), .val (.int p1), .val (.int p2), .val (.int p3), .val (.int p4), .val (.int (1 : Int32)), .val (.int i1), .val (.int i2), .val (.int i3), .val (.int i4), .val (.ref b1), .val (.ref b2_2), .val (.int (1 : Int32))]) rfl ?_
    refine XS.iload X57.here hx rfl (hb hby at_215) rfl ?_
    refine XS.ifNo X57.here hx rfl (hb hby at_217) rfl ((if0 _ _).trans (feq (by decide : ¬ ((1 : Int32) = (0 : Int32)))).1) ?_
    show Steps p.tables e below (T57.setTop (mkF m 220 #[.val (.int p0), .val (.int p1), .val (.int p2), .val (.int p3), .val (.int p4), .val (.int (1 : Int32)), .val (.int i1), .val (.int i2), .val (.int i3), .val (.int i4), .val (.ref b1), .val (.ref b2_2), .val (.int (1 : Int32))] [])) _
    refine XS.aload X57.here hx rfl (hb hby at_220) rfl rfl ?_
    refine XS.iconst X57.here hx rfl (hb hby at_222) ?_
    refine XS.iload X57.here hx rfl (hb hby at_223) rfl ?_
    refine st60 _ ?_
    show Steps p.tables e below (T60.setTop (mkF m 228 #[.val (.int p0), .val (.int p1), .val (.int p2), .val (.int p3), .val (.int p4), .val (.int (1 : Int32)), .val (.int i1), .val (.int i2), .val (.int i3), .val (.int i4), .val (.ref b1), .val (.ref b2_2), .val (.int (1 : Int32))] [(.int (1 : Int32))])) _
    refine XS.ifNo X60.here hx rfl (hb hby at_228) rfl ((if0 _ _).trans (feq (by decide : ¬ ((1 : Int32) = (0 : Int32)))).1) ?_
    refine XS.aload X60.here hx rfl (hb hby at_231) rfl rfl ?_
    show Steps p.tables e below (T60.setTop (mkF m 233 #[.val (.int p0), .val (.int p1), .val (.int p2), .val (.int p3), .val (.int p4), .val (.int (1 : Int32)), .val (.int i1), .val (.int i2), .val (.int i3), .val (.int i4), .val (.ref b1), .val (.ref b2_2), .val (.int (1 : Int32))] [(.ref b2_2)])) _
    refine XS.iconst X60.here hx rfl (hb hby at_233) ?_
    refine XS.iload X60.here hx rfl (hb hby at_234) rfl ?_
    refine st61 _ ?_
    show Steps p.tables e below (T61.setTop (mkF m 239 #[.val (.int p0), .val (.int p1), .val (.int p2), .val (.int p3), .val (.int p4), .val (.int (1 : Int32)), .val (.int i1), .val (.int i2), .val (.int i3), .val (.int i4), .val (.ref b1), .val (.ref b2_2), .val (.int (1 : Int32))] [(.int (1 : Int32))])) _
    refine XS.ifNo X61.here hx rfl (hb hby at_239) rfl ((if0 _ _).trans (feq (by decide : ¬ ((1 : Int32) = (0 : Int32)))).1) ?_
    refine XS.aload X61.here hx rfl (hb hby at_242) rfl rfl ?_
    refine XS.iconst X61.here hx rfl (hb hby at_244) ?_
    show Steps p.tables e below (T61.setTop (mkF m 245 #[.val (.int p0), .val (.int p1), .val (.int p2), .val (.int p3), .val (.int p4), .val (.int (1 : Int32)), .val (.int i1), .val (.int i2), .val (.int i3), .val (.int i4), .val (.ref b1), .val (.ref b2_2), .val (.int (1 : Int32))] [(.int (2 : Int32)), (.ref b2_2)])) _
    refine XS.iload X61.here hx rfl (hb hby at_245) rfl ?_
    refine st62 _ ?_
    show Steps p.tables e below (T62.setTop (mkF m 250 #[.val (.int p0), .val (.int p1), .val (.int p2), .val (.int p3), .val (.int p4), .val (.int (1 : Int32)), .val (.int i1), .val (.int i2), .val (.int i3), .val (.int i4), .val (.ref b1), .val (.ref b2_2), .val (.int (1 : Int32))] [(.int (1 : Int32))])) _
    refine XS.ifNo X62.here hx rfl (hb hby at_250) rfl ((if0 _ _).trans (feq (by decide : ¬ ((1 : Int32) = (0 : Int32)))).1) ?_
    refine XS.aload X62.here hx rfl (hb hby at_253) rfl rfl ?_
    refine XS.iconst X62.here hx rfl (hb hby at_255) ?_
    refine XS.iload X62.here hx rfl (hb hby at_256) rfl ?_
    show Steps p.tables e below (T62.setTop (mkF m 258 #[.val (.int p0), .val (.int p1), .val (.int p2), .val (.int p3), .val (.int p4), .val (.int (1 : Int32)), .val (.int i1), .val (.int i2), .val (.int i3), .val (.int i4), .val (.ref b1), .val (.ref b2_2), .val (.int (1 : Int32))] [(.int i4), (.int (3 : Int32)), (.ref b2_2)])) _
    refine st63 _ ?_
    show Steps p.tables e below (T63.setTop (mkF m 261 #[.val (.int p0), .val (.int p1), .val (.int p2), .val (.int p3), .val (.int p4), .val (.int (1 : Int32)), .val (.int i1), .val (.int i2), .val (.int i3), .val (.int i4), .val (.ref b1), .val (.ref b2_2), .val (.int (1 : Int32))] [(.int (1 : Int32))])) _
    refine XS.ifNo X63.here hx rfl (hb hby at_261) rfl ((if0 _ _).trans (feq (by decide : ¬ ((1 : Int32) = (0 : Int32)))).1) ?_
    refine XS.iconst X63.here hx rfl (hb hby at_264) ?_
    refine XS.goto X63.here hx rfl (pc0 := 265) (pc' := 269) rfl (hb hby at_265) (by decide) (by decide) ?_
    refine XS.istore X63.here hx rfl (hb hby at_269) rfl (l' := #[.val (.int p0), .val (.int p1), .val (.int p2), .val (.int p3), .val (.int p4), .val (.int (1 : Int32)), .val (.int i1), .val (.int i2), .val (.int i3), .val (.int i4), .val (.ref b1), .val (.ref b2_2), .val (.int (1 : Int32))]) rfl ?_
    refine XS.iload X63.here hx rfl (hb hby at_271) rfl ?_
    show Steps p.tables e below (T63.setTop (mkF m 273 #[.val (.int p0), .val (.int p1), .val (.int p2), .val (.int p3), .val (.int p4), .val (.int (1 : Int32)), .val (.int i1), .val (.int i2), .val (.int i3), .val (.int i4), .val (.ref b1), .val (.ref b2_2), .val (.int (1 : Int32))] [(.int (1 : Int32))])) _
    exact retN X63 hx (t := .boolean) Bd.returns (by simp) (hb hby at_273) hr
  · show Q0 n0 _ T63.heap _
    rw [e63]
    exact ⟨rfl, N63⟩
set_option maxRecDepth 65536 in
set_option maxHeartbeats 40000000 in
theorem rm2S (l : Launch) (Z : State) (a0 : Array Value) (hw : ∀ d ∈ tables_1, d.before a0 Z = true) (ws : List Jvm.Cond) (p0 : Int32) (p1 : Int32) (p2 : Int32) (p3 : Int32) (p4 : Int32) (i4 : Int32) (U1 : List Value) (x1 : UInt64) (y1 : UInt64) (M1 : List Value) (U2 : List Value) (x2 : UInt64) (y2 : UInt64) (U9 : List Value) (M9 : List Value) (y9 : UInt64) (i1 : Int32) (i2 : Int32) (i3 : Int32) (h0 : Heap) (n0 : Nat) (Z0 : n0 ≤ h0.size) (hix4 : ¬ i4 < 0 ∧ i4 < (4 : Int32)) (hr200 : U9.getD i4.toNatClampNeg (.double (0 : UInt64)) = .double y9) (hv2 : (p0 &&& (3 : Int32)) = (2 : Int32)) (hv9 : (((p0.toUInt32 >>> ((2 : Int32) &&& 31).toUInt32).toInt32) &&& (3 : Int32)) = i1) (hv16 : (((p0.toUInt32 >>> ((4 : Int32) &&& 31).toUInt32).toInt32) &&& (3 : Int32)) = i2) (hv24 : (((p0.toUInt32 >>> ((6 : Int32) &&& 31).toUInt32).toInt32) &&& (3 : Int32)) = i3) (hv32 : (((p0.toUInt32 >>> ((8 : Int32) &&& 31).toUInt32).toInt32) &&& (3 : Int32)) = i4) (hix_57 : ¬ i1 < 0 ∧ i1 < (4 : Int32)) (hrl_57 : ([(.int (0 : Int32)), (.int (0 : Int32)), (.int (0 : Int32)), (.int (0 : Int32))] : List Value).getD i1.toNatClampNeg (.int (0 : Int32)) = .int (0 : Int32)) (hrv_57 : ([(.double (0 : UInt64)), (.double (0 : UInt64)), (.double (0 : UInt64)), (.double (0 : UInt64))] : List Value).getD i1.toNatClampNeg (.double (0 : UInt64)) = .double x1) (hvl_57 : i1.toNatClampNeg < ([(.double (0 : UInt64)), (.double (0 : UInt64)), (.double (0 : UInt64)), (.double (0 : UInt64))] : List Value).length) (hll_57 : i1.toNatClampNeg < ([(.int (0 : Int32)), (.int (0 : Int32)), (.int (0 : Int32)), (.int (0 : Int32))] : List Value).length) (hls_57 : (([(.int (0 : Int32)), (.int (0 : Int32)), (.int (0 : Int32)), (.int (0 : Int32))] : List Value).set i1.toNatClampNeg (.int (1 : Int32))) = M1) (hvs_57 : (([(.double (0 : UInt64)), (.double (0 : UInt64)), (.double (0 : UInt64)), (.double (0 : UInt64))] : List Value).set i1.toNatClampNeg (.double y1)) = U1) (nn41_57 : Jvm.Free.Fl.NoNaN64 (FP.dadd x1 (FP.i2d p1))) (hq41_57 : (FP.dadd x1 (FP.i2d p1)) = y1) (hix_72 : ¬ i2 < 0 ∧ i2 < (4 : Int32)) (hrl_72 : M1.getD i2.toNatClampNeg (.int (0 : Int32)) = .int (1 : Int32)) (hrv_72 : U1.getD i2.toNatClampNeg (.double (0 : UInt64)) = .double x2) (hvl_72 : i2.toNatClampNeg < U1.length) (hvs_72 : (U1.set i2.toNatClampNeg (.double y2)) = U2) (nn41_72 : Jvm.Free.Fl.NoNaN64 (FP.dadd x2 (FP.i2d p2))) (hq41_72 : (FP.dadd x2 (FP.i2d p2)) = y2) (hx0_92 : ¬ i1 < 0 ∧ i1 < (4 : Int32)) (hv0_92 : i1.toNatClampNeg < U2.length) (hl0_92 : i1.toNatClampNeg < M1.length) (hvs_92 : (U2.set i1.toNatClampNeg (.double (0 : UInt64))) = ([(.double (0 : UInt64)), (.double (0 : UInt64)), (.double (0 : UInt64)), (.double (0 : UInt64))] : List Value)) (hls_92 : (M1.set i1.toNatClampNeg (.int (0 : Int32))) = ([(.int (0 : Int32)), (.int (0 : Int32)), (.int (0 : Int32)), (.int (0 : Int32))] : List Value)) (hd115 : (cmpValue (FP.dcmp (0 : UInt64) (0 : UInt64)) .l) = (0 : Int32)) (hd124 : (cmpValue (FP.dcmp (0 : UInt64) (0 : UInt64)) .l) = (0 : Int32)) (hd133 : (cmpValue (FP.dcmp (0 : UInt64) (0 : UInt64)) .l) = (0 : Int32)) (hd142 : (cmpValue (FP.dcmp (0 : UInt64) (0 : UInt64)) .l) = (0 : Int32)) (hix_160 : ¬ i4 < 0 ∧ i4 < (4 : Int32)) (hrl_160 : ([(.int (0 : Int32)), (.int (0 : Int32)), (.int (0 : Int32)), (.int (0 : Int32))] : List Value).getD i4.toNatClampNeg (.int (0 : Int32)) = .int (0 : Int32)) (hrv_160 : ([(.double (0 : UInt64)), (.double (0 : UInt64)), (.double (0 : UInt64)), (.double (0 : UInt64))] : List Value).getD i4.toNatClampNeg (.double (0 : UInt64)) = .double (0 : UInt64)) (hvl_160 : i4.toNatClampNeg < ([(.double (0 : UInt64)), (.double (0 : UInt64)), (.double (0 : UInt64)), (.double (0 : UInt64))] : List Value).length) (hll_160 : i4.toNatClampNeg < ([(.int (0 : Int32)), (.int (0 : Int32)), (.int (0 : Int32)), (.int (0 : Int32))] : List Value).length) (hls_160 : (([(.int (0 : Int32)), (.int (0 : Int32)), (.int (0 : Int32)), (.int (0 : Int32))] : List Value).set i4.toNatClampNeg (.int (1 : Int32))) = M9) (hvs_160 : (([(.double (0 : UInt64)), (.double (0 : UInt64)), (.double (0 : UInt64)), (.double (0 : UInt64))] : List Value).set i4.toNatClampNeg (.double y9)) = U9) (nn41_160 : Jvm.Free.Fl.NoNaN64 (FP.dadd (0 : UInt64) (FP.i2d p4))) (hq41_160 : (FP.dadd (0 : UInt64) (FP.i2d p4)) = y9) (hd204 : (cmpValue (FP.dcmp y9 (FP.i2d p4)) .l) = (0 : Int32)) (hix_225 : ¬ (0 : Int32) < 0 ∧ (0 : Int32) < (4 : Int32)) (hrd_225 : ¬ ((0 : Int32) = i4) → U9.getD (0 : Int32).toNatClampNeg (.double (0 : UInt64)) = .double (0 : UInt64)) (hd9_225 : (cmpValue (FP.dcmp (0 : UInt64) (0 : UInt64)) .l) = (0 : Int32)) (hix_236 : ¬ (1 : Int32) < 0 ∧ (1 : Int32) < (4 : Int32)) (hrd_236 : ¬ ((1 : Int32) = i4) → U9.getD (1 : Int32).toNatClampNeg (.double (0 : UInt64)) = .double (0 : UInt64)) (hd9_236 : (cmpValue (FP.dcmp (0 : UInt64) (0 : UInt64)) .l) = (0 : Int32)) (hix_247 : ¬ (2 : Int32) < 0 ∧ (2 : Int32) < (4 : Int32)) (hrd_247 : ¬ ((2 : Int32) = i4) → U9.getD (2 : Int32).toNatClampNeg (.double (0 : UInt64)) = .double (0 : UInt64)) (hd9_247 : (cmpValue (FP.dcmp (0 : UInt64) (0 : UInt64)) .l) = (0 : Int32)) (hix_258 : ¬ (3 : Int32) < 0 ∧ (3 : Int32) < (4 : Int32)) (hrd_258 : ¬ ((3 : Int32) = i4) → U9.getD (3 : Int32).toNatClampNeg (.double (0 : UInt64)) = .double (0 : UInt64)) (hd9_258 : (cmpValue (FP.dcmp (0 : UInt64) (0 : UInt64)) .l) = (0 : Int32)) :
    MetFree l x (head1 (Jvm.Cond.code x code maxLocals ret :: ws) room_1) (fun a U => a = #[(.int p0), (.int p1), (.int p2), (.int p3), (.int p4)] ∧ Z.Warmed39 U.vm ∧ U.heap = h0) (fun _ _ _ _ _ => True) (fun _ U o U' => ∃ v L, o = .returned v ∧ Q0 n0 v U'.heap L ∧ FrameEnd U o U' L room_1.cells room_1.slots) := by
  refine MetFree.of_bodySF (plainFor_of_name pn_com_example_leeway_leeway_lp_SparseColumnClearPinLaw) hisR ?_
  intro p e s m args below meth c s₁ Bd hml0 hP hK
  obtain ⟨rfl, hZ, hh⟩ := hP
  have hx := Bd.exec
  have hby := Bd.bytes
  have hml : c.maxLocals = 13 := hml0
  have hown : s.vm.findClass "com/example/leeway/leeway/lp/SparseColumnClearPinLaw" = some m.cls := findClass_of_methodNamed Bd.named
  have hnm := (name_of_methodNamed Bd.named Bd.method).1
  have X0 : Stand p l e room_1 s m #[(.int p0), (.int p1), (.int p2), (.int p3), (.int p4)] below meth c s₁ [] 0 0 := Stand.of_body Bd
  have e0 : s₁.heap = h0 := by rw [← hh, Bd.state]; rfl
  have N0 := Fr.nil n0
  have pre0 : ∀ t, Steps p.tables e below (s₁.setTop (mkF m 0 #[.val (.int p0), .val (.int p1), .val (.int p2), .val (.int p3), .val (.int p4), .unset, .unset, .unset, .unset, .unset, .unset, .unset, .unset] [])) t → Steps p.tables e below (s₁.setTop (entryFrame m #[(.int p0), (.int p1), (.int p2), (.int p3), (.int p4)] maxLocals)) t := fun t k => castTop (ef_0_IIIII m p0 p1 p2 p3 p4) k
  obtain ⟨T1, h1, X1, e1, E1, A1, D1, -, st1⟩ := newO X0 hx hZ hown (hw _ (List.mem_of_getElem? (i := 0) rfl)) (hw _ (List.mem_of_getElem? (i := 1) rfl)) (hw _ (List.mem_of_getElem? (i := 2) rfl)) e0 (g := (mkF m 35 #[.val (.int p0), .val (.int p1), .val (.int p2), .val (.int p3), .val (.int p4), .val (.int (2 : Int32)), .val (.int i1), .val (.int i2), .val (.int i3), .val (.int i4), .unset, .unset, .unset] [])) rfl (hb hby at_35) (by decide) (by decide)
  obtain ⟨b1, g1⟩ : ∃ z, z = h0.size := ⟨_, rfl⟩
  rw [← g1] at A1 D1 st1
  have g_b1 : n0 ≤ b1 := Nat.le_trans Z0 (Nat.le_of_eq g1.symm)
  have sz_b1 : h0.size ≤ b1 := Nat.le_trans (Keep.refl h0 []).1 (Nat.le_of_eq g1.symm)
  have K1 : Keep h0 h1 [] := (Keep.refl h0 []).ext E1
  have Zs1 := Nat.le_trans Z0 E1.1
  have F1_values : Fld Z h1 b1 "com/example/leeway/leeway/lp/SparseColumn" "values" "[D" .null := D1 (Or.inr (hw _ (List.mem_of_getElem? (i := 11) rfl))) (ty := (.array .double)) (by decide)
  have F1_listed : Fld Z h1 b1 "com/example/leeway/leeway/lp/SparseColumn" "listed" "[Z" .null := D1 (Or.inr (hw _ (List.mem_of_getElem? (i := 14) rfl))) (ty := (.array .boolean)) (by decide)
  have F1_rows : Fld Z h1 b1 "com/example/leeway/leeway/lp/SparseColumn" "rows" "[I" .null := D1 (Or.inr (hw _ (List.mem_of_getElem? (i := 17) rfl))) (ty := (.array .int)) (by decide)
  have F1_count : Fld Z h1 b1 "com/example/leeway/leeway/lp/SparseColumn" "count" "I" (.int (0 : Int32)) := D1 (Or.inl (hw _ (List.mem_of_getElem? (i := 24) rfl))) (ty := .int) (by decide)
  obtain ⟨_, _, ⟨T2, L2, k2, n2⟩, -, X2, ⟨Lc2, hQ2, l2, y2, z2⟩, st2⟩ := X1.specialBack hx (y := (⟨"com/example/leeway/leeway/lp/SparseColumn", "<init>", "(I)V"⟩ : MethodName)) rfl hown (mvT hZ (hw _ (List.mem_of_getElem? (i := 3) rfl))) (mvT hZ (hw _ (List.mem_of_getElem? (i := 4) rfl))) (mvT hZ (hw _ (List.mem_of_getElem? (i := 5) rfl))) (by decide) (backOf (W := 1) (sci l Z a0 hw [] b1 h1 n0 Zs1 g_b1 A1 F1_values F1_listed F1_rows F1_count) hZ (hw _ (List.mem_of_getElem? (i := 5) rfl)) (hw _ (List.mem_of_getElem? (i := 2) rfl)) (by decide) (by decide)) (g := (mkF m 40 #[.val (.int p0), .val (.int p1), .val (.int p2), .val (.int p3), .val (.int p4), .val (.int (2 : Int32)), .val (.int i1), .val (.int i2), .val (.int i3), .val (.int i4), .unset, .unset, .unset] [(.int (4 : Int32)), (.ref b1), (.ref b1)])) rfl (by rw [hml]; rfl) (Steps.refl _) (a := b1) (argsL := [(.int (4 : Int32))]) (rest := [(.ref b1)]) (lenOf pd_0 rfl) rfl (by show 2 * 0 + _ ≤ _; exact Nat.le_of_eq rfl) (hb hby at_40) (fun _ _ => ⟨rfl, e1, (by decide : 1 + 3 ≤ _), (by decide : 4 + 12 ≤ _)⟩)
  dsimp only [Pt.U, Pt.locs, Pt.cells, Pt.slots] at X2 l2 y2 z2 st2 hQ2
  subst l2 y2 z2
  obtain ⟨b2_2, b15_2, b30_2, k2_2, k15_2, k30_2, rfl, N2q, K2q, r3, r4, r5, r6, r7, r8, f9, f10, f11, f12, f13, f14, f15, f16⟩ := hQ2
  have N2 := Fr.app N0 N2q
  have ne_b1_b2_2 : b1 ≠ b2_2 := Nat.ne_of_lt (Nat.lt_of_lt_of_le A1.lt r3)
  have g_b2_2 : n0 ≤ b2_2 := Nat.le_trans Zs1 r3
  have sz_b2_2 : h0.size ≤ b2_2 := Nat.le_trans K1.1 r3
  have ne_b1_b15_2 : b1 ≠ b15_2 := Nat.ne_of_lt (Nat.lt_of_lt_of_le A1.lt r4)
  have g_b15_2 : n0 ≤ b15_2 := Nat.le_trans Zs1 r4
  have sz_b15_2 : h0.size ≤ b15_2 := Nat.le_trans K1.1 r4
  have ne_b1_b30_2 : b1 ≠ b30_2 := Nat.ne_of_lt (Nat.lt_of_lt_of_le A1.lt r5)
  have g_b30_2 : n0 ≤ b30_2 := Nat.le_trans Zs1 r5
  have sz_b30_2 : h0.size ≤ b30_2 := Nat.le_trans K1.1 r5
  have f17 := A1.keep K2q
  have K2 : Keep h0 T2.heap [] := K1.trans K2q (own_allS (Or.inr sz_b1) own_all0)
  have Zs2 := Nat.le_trans Zs1 K2q.1
  obtain ⟨cq18, kq18, q18a, q18b, q18c⟩ := isOf hZ rfl f9
  obtain ⟨_, _, ⟨T18, L18, k18, n18⟩, -, X18, ⟨Lc18, hQ18, l18, y18, z18⟩, st18⟩ := X2.virtualBack hx (y := (⟨"com/example/leeway/leeway/lp/SparseColumn", "add", "(ID)V"⟩ : MethodName)) (z := (⟨"com/example/leeway/leeway/lp/SparseColumn", "add", "(ID)V"⟩ : MethodName)) hown (mvT hZ (hw _ (List.mem_of_getElem? (i := 35) rfl))) (mvT hZ (hw _ (List.mem_of_getElem? (i := 36) rfl))) (notFace_of_selects (args := #[]) (mvT hZ (hw _ (List.mem_of_getElem? (i := 38) rfl)))) (mvT hZ (hw _ (List.mem_of_getElem? (i := 38) rfl))) (mvT hZ (hw _ (List.mem_of_getElem? (i := 37) rfl))) (by decide) (backOf (W := 0) (addN0 l Z a0 hw [] b1 b2_2 b15_2 b30_2 k2_2 k15_2 k30_2 (0 : Int32) (0 : Int32) (0 : Int32) (0 : Int32) ([(.double (0 : UInt64)), (.double (0 : UInt64)), (.double (0 : UInt64)), (.double (0 : UInt64))] : List Value) ([(.int (0 : Int32)), (.int (0 : Int32)), (.int (0 : Int32)), (.int (0 : Int32))] : List Value) U1 M1 i1 (FP.i2d p1) x1 y1 T2.heap n0 Zs2 f10 f11 f12 f13 f9 f14 f15 f16 g_b1 g_b2_2 g_b15_2 g_b30_2 ne_b1_b2_2 ne_b1_b15_2 ne_b1_b30_2 r6 r7 r8 hix_57 hrl_57 hrv_57 hvl_57 hll_57 hls_57 hvs_57 nn41_57 hq41_57) hZ (hw _ (List.mem_of_getElem? (i := 39) rfl)) (hw _ (List.mem_of_getElem? (i := 2) rfl)) (by decide) (by decide)) q18a q18c (g := (mkF m 57 #[.val (.int p0), .val (.int p1), .val (.int p2), .val (.int p3), .val (.int p4), .val (.int (2 : Int32)), .val (.int i1), .val (.int i2), .val (.int i3), .val (.int i4), .val (.ref b1), .unset, .unset] [(.double (FP.i2d p1)), (.int i1), (.ref b1)])) rfl (by rw [hml]; rfl) (Steps.refl _) (argsL := [(.int i1), (.double (FP.i2d p1))]) (rest := []) (lenOf pd_4 rfl) rfl (by show 2 * 0 + _ ≤ _; exact Nat.le_of_eq rfl) (hb hby at_57) (fun _ _ => ⟨rfl, rfl, (by decide : 4 + 0 ≤ _), (by decide : 16 + 0 ≤ _)⟩)
  dsimp only [Pt.U, Pt.locs, Pt.cells, Pt.slots] at X18 l18 y18 z18 st18 hQ18
  subst l18 y18 z18
  obtain ⟨rfl, N18q, K18q, f19, f20, f21, f22, f23, f24, f25, f26⟩ := hQ18
  have N18 := Fr.app N2 N18q
  have f27 := f9.keep K18q
  have K18 : Keep h0 T18.heap [] := K2.trans K18q (own_allS (Or.inr sz_b15_2) (own_allS (Or.inr sz_b1) (own_allS (Or.inr sz_b30_2) (own_allS (Or.inr sz_b2_2) own_all0))))
  have Zs18 := Nat.le_trans Zs2 K18q.1
  obtain ⟨cq28, kq28, q28a, q28b, q28c⟩ := isOf hZ rfl f19
  obtain ⟨_, _, ⟨T28, L28, k28, n28⟩, -, X28, ⟨Lc28, hQ28, l28, y28, z28⟩, st28⟩ := X18.virtualBack hx (y := (⟨"com/example/leeway/leeway/lp/SparseColumn", "add", "(ID)V"⟩ : MethodName)) (z := (⟨"com/example/leeway/leeway/lp/SparseColumn", "add", "(ID)V"⟩ : MethodName)) hown (mvT hZ (hw _ (List.mem_of_getElem? (i := 35) rfl))) (mvT hZ (hw _ (List.mem_of_getElem? (i := 36) rfl))) (notFace_of_selects (args := #[]) (mvT hZ (hw _ (List.mem_of_getElem? (i := 38) rfl)))) (mvT hZ (hw _ (List.mem_of_getElem? (i := 38) rfl))) (mvT hZ (hw _ (List.mem_of_getElem? (i := 37) rfl))) (by decide) (backOf (W := 0) (addL1 l Z a0 hw [] b1 b2_2 b15_2 b30_2 k2_2 k15_2 k30_2 i1 (0 : Int32) (0 : Int32) (0 : Int32) U1 M1 U2 i2 (FP.i2d p2) x2 y2 T18.heap n0 Zs18 f20 f21 f22 f23 f19 f24 f25 f26 g_b1 g_b2_2 g_b15_2 g_b30_2 ne_b1_b2_2 ne_b1_b15_2 ne_b1_b30_2 r6 r7 r8 hix_72 hrl_72 hrv_72 hvl_72 hvs_72 nn41_72 hq41_72) hZ (hw _ (List.mem_of_getElem? (i := 39) rfl)) (hw _ (List.mem_of_getElem? (i := 2) rfl)) (by decide) (by decide)) q28a q28c (g := (mkF m 72 #[.val (.int p0), .val (.int p1), .val (.int p2), .val (.int p3), .val (.int p4), .val (.int (2 : Int32)), .val (.int i1), .val (.int i2), .val (.int i3), .val (.int i4), .val (.ref b1), .unset, .unset] [(.double (FP.i2d p2)), (.int i2), (.ref b1)])) rfl (by rw [hml]; rfl) (Steps.refl _) (argsL := [(.int i2), (.double (FP.i2d p2))]) (rest := []) (lenOf pd_4 rfl) rfl (by show 2 * 0 + _ ≤ _; exact Nat.le_of_eq rfl) (hb hby at_72) (fun _ _ => ⟨rfl, rfl, (by decide : 4 + 0 ≤ _), (by decide : 16 + 0 ≤ _)⟩)
  dsimp only [Pt.U, Pt.locs, Pt.cells, Pt.slots] at X28 l28 y28 z28 st28 hQ28
  subst l28 y28 z28
  obtain ⟨rfl, N28q, K28q, f29, f30, f31, f32, f33, f34, f35, f36⟩ := hQ28
  have N28 := Fr.app N18 N28q
  have f37 := f19.keep K28q
  have f38 := f20.keep K28q (own_niS ne_b1_b2_2 own_ni0)
  have f39 := f21.keep K28q (own_niS ne_b1_b2_2 own_ni0)
  have f40 := f22.keep K28q (own_niS ne_b1_b2_2 own_ni0)
  have f41 := f23.keep K28q (own_niS ne_b1_b2_2 own_ni0)
  have f42 := f25.keep K28q (own_niS (Ne.symm r6) own_ni0)
  have f43 := f26.keep K28q (own_niS (Ne.symm r7) own_ni0)
  have K28 : Keep h0 T28.heap [] := K18.trans K28q (own_allS (Or.inr sz_b2_2) own_all0)
  have Zs28 := Nat.le_trans Zs18 K28q.1
  obtain ⟨cq44, kq44, q44a, q44b, q44c⟩ := isOf hZ rfl f29
  obtain ⟨_, _, ⟨T44, L44, k44, n44⟩, -, X44, ⟨Lc44, hQ44, l44, y44, z44⟩, st44⟩ := X28.virtualBack hx (y := (⟨"com/example/leeway/leeway/lp/SparseColumn", "clear", "()V"⟩ : MethodName)) (z := (⟨"com/example/leeway/leeway/lp/SparseColumn", "clear", "()V"⟩ : MethodName)) hown (mvT hZ (hw _ (List.mem_of_getElem? (i := 18) rfl))) (mvT hZ (hw _ (List.mem_of_getElem? (i := 19) rfl))) (notFace_of_selects (args := #[]) (mvT hZ (hw _ (List.mem_of_getElem? (i := 21) rfl)))) (mvT hZ (hw _ (List.mem_of_getElem? (i := 21) rfl))) (mvT hZ (hw _ (List.mem_of_getElem? (i := 20) rfl))) (by decide) (backOf (W := 0) (clr1 l Z a0 hw [] b1 b2_2 b15_2 b30_2 k2_2 k15_2 k30_2 i1 (0 : Int32) (0 : Int32) (0 : Int32) U2 M1 ([(.double (0 : UInt64)), (.double (0 : UInt64)), (.double (0 : UInt64)), (.double (0 : UInt64))] : List Value) ([(.int (0 : Int32)), (.int (0 : Int32)), (.int (0 : Int32)), (.int (0 : Int32))] : List Value) T28.heap n0 Zs28 f30 f31 f32 f33 f29 f34 f35 f36 g_b1 g_b2_2 g_b15_2 g_b30_2 ne_b1_b2_2 ne_b1_b15_2 ne_b1_b30_2 r6 r7 r8 hx0_92 hv0_92 hl0_92 hvs_92 hls_92) hZ (hw _ (List.mem_of_getElem? (i := 22) rfl)) (hw _ (List.mem_of_getElem? (i := 2) rfl)) (by decide) (by decide)) q44a q44c (g := (mkF m 92 #[.val (.int p0), .val (.int p1), .val (.int p2), .val (.int p3), .val (.int p4), .val (.int (2 : Int32)), .val (.int i1), .val (.int i2), .val (.int i3), .val (.int i4), .val (.ref b1), .unset, .unset] [(.ref b1)])) rfl (by rw [hml]; rfl) (Steps.refl _) (argsL := []) (rest := []) (lenOf pd_1 rfl) rfl (by show 2 * 0 + _ ≤ _; exact Nat.le_of_eq rfl) (hb hby at_92) (fun _ _ => ⟨rfl, rfl, (by decide : 4 + 0 ≤ _), (by decide : 16 + 0 ≤ _)⟩)
  dsimp only [Pt.U, Pt.locs, Pt.cells, Pt.slots] at X44 l44 y44 z44 st44 hQ44
  subst l44 y44 z44
  obtain ⟨rfl, N44q, K44q, f45, f46, f47, f48, f49, f50, f51, f52⟩ := hQ44
  have N44 := Fr.app N28 N44q
  have f53 := f29.keep K44q
  have f54 := f36.keep K44q (own_niS (Ne.symm r7) (own_niS (Ne.symm r8) (own_niS (Ne.symm ne_b1_b30_2) own_ni0)))
  have K44 : Keep h0 T44.heap [] := K28.trans K44q (own_allS (Or.inr sz_b2_2) (own_allS (Or.inr sz_b15_2) (own_allS (Or.inr sz_b1) own_all0)))
  have Zs44 := Nat.le_trans Zs28 K44q.1
  obtain ⟨cq55, kq55, q55a, q55b, q55c⟩ := isOf hZ rfl f45
  obtain ⟨_, _, ⟨T55, L55, k55, n55⟩, -, X55, ⟨Lc55, hQ55, l55, y55, z55⟩, st55⟩ := X44.virtualBack hx (y := (⟨"com/example/leeway/leeway/lp/SparseColumn", "values", "()[D"⟩ : MethodName)) (z := (⟨"com/example/leeway/leeway/lp/SparseColumn", "values", "()[D"⟩ : MethodName)) hown (mvT hZ (hw _ (List.mem_of_getElem? (i := 25) rfl))) (mvT hZ (hw _ (List.mem_of_getElem? (i := 26) rfl))) (notFace_of_selects (args := #[]) (mvT hZ (hw _ (List.mem_of_getElem? (i := 28) rfl)))) (mvT hZ (hw _ (List.mem_of_getElem? (i := 28) rfl))) (mvT hZ (hw _ (List.mem_of_getElem? (i := 27) rfl))) (by decide) (backOf (W := 0) (gv l Z a0 hw [] b1 b2_2 b15_2 b30_2 k2_2 k15_2 k30_2 i1 (0 : Int32) (0 : Int32) (0 : Int32) ([(.double (0 : UInt64)), (.double (0 : UInt64)), (.double (0 : UInt64)), (.double (0 : UInt64))] : List Value) ([(.int (0 : Int32)), (.int (0 : Int32)), (.int (0 : Int32)), (.int (0 : Int32))] : List Value) (0 : Int32) T44.heap n0 Zs44 f46 f47 f48 f49 f45 f50 f51 f52) hZ (hw _ (List.mem_of_getElem? (i := 29) rfl)) (hw _ (List.mem_of_getElem? (i := 2) rfl)) (by decide) (by decide)) q55a q55c (g := (mkF m 97 #[.val (.int p0), .val (.int p1), .val (.int p2), .val (.int p3), .val (.int p4), .val (.int (2 : Int32)), .val (.int i1), .val (.int i2), .val (.int i3), .val (.int i4), .val (.ref b1), .unset, .unset] [(.ref b1)])) rfl (by rw [hml]; rfl) (Steps.refl _) (argsL := []) (rest := []) (lenOf pd_2 rfl) rfl (by show 2 * 0 + _ ≤ _; exact Nat.le_of_eq rfl) (hb hby at_97) (fun _ _ => ⟨rfl, rfl, (by decide : 4 + 0 ≤ _), (by decide : 16 + 0 ≤ _)⟩)
  dsimp only [Pt.U, Pt.locs, Pt.cells, Pt.slots] at X55 l55 y55 z55 st55 hQ55
  subst l55 y55 z55
  obtain ⟨rfl, N55q, eh55⟩ := hQ55
  have N55 := Fr.app N44 N55q
  have e55 : T55.heap = T44.heap := eh55
  obtain ⟨cq56, kq56, q56a, q56b, q56c⟩ := isOf hZ e55 f45
  obtain ⟨_, _, ⟨T56, L56, k56, n56⟩, -, X56, ⟨Lc56, hQ56, l56, y56, z56⟩, st56⟩ := X55.virtualBack hx (y := (⟨"com/example/leeway/leeway/lp/SparseColumn", "count", "()I"⟩ : MethodName)) (z := (⟨"com/example/leeway/leeway/lp/SparseColumn", "count", "()I"⟩ : MethodName)) hown (mvT hZ (hw _ (List.mem_of_getElem? (i := 30) rfl))) (mvT hZ (hw _ (List.mem_of_getElem? (i := 31) rfl))) (notFace_of_selects (args := #[]) (mvT hZ (hw _ (List.mem_of_getElem? (i := 33) rfl)))) (mvT hZ (hw _ (List.mem_of_getElem? (i := 33) rfl))) (mvT hZ (hw _ (List.mem_of_getElem? (i := 32) rfl))) (by decide) (backOf (W := 0) (gc l Z a0 hw [] b1 b2_2 b15_2 b30_2 k2_2 k15_2 k30_2 i1 (0 : Int32) (0 : Int32) (0 : Int32) ([(.double (0 : UInt64)), (.double (0 : UInt64)), (.double (0 : UInt64)), (.double (0 : UInt64))] : List Value) ([(.int (0 : Int32)), (.int (0 : Int32)), (.int (0 : Int32)), (.int (0 : Int32))] : List Value) (0 : Int32) T44.heap n0 Zs44 f46 f47 f48 f49 f45 f50 f51 f52) hZ (hw _ (List.mem_of_getElem? (i := 34) rfl)) (hw _ (List.mem_of_getElem? (i := 2) rfl)) (by decide) (by decide)) q56a q56c (g := (mkF m 104 #[.val (.int p0), .val (.int p1), .val (.int p2), .val (.int p3), .val (.int p4), .val (.int (2 : Int32)), .val (.int i1), .val (.int i2), .val (.int i3), .val (.int i4), .val (.ref b1), .val (.ref b2_2), .unset] [(.ref b1)])) rfl (by rw [hml]; rfl) (Steps.refl _) (argsL := []) (rest := []) (lenOf pd_3 rfl) rfl (by show 2 * 0 + _ ≤ _; exact Nat.le_of_eq rfl) (hb hby at_104) (fun _ _ => ⟨rfl, e55, (by decide : 4 + 0 ≤ _), (by decide : 16 + 0 ≤ _)⟩)
  dsimp only [Pt.U, Pt.locs, Pt.cells, Pt.slots] at X56 l56 y56 z56 st56 hQ56
  subst l56 y56 z56
  obtain ⟨rfl, N56q, eh56⟩ := hQ56
  have N56 := Fr.app N55 N56q
  have e56 : T56.heap = T44.heap := eh56
  obtain ⟨cq57, Arq57, -, Sq57, -, Hq57, -⟩ := id f50
  obtain ⟨cq58, Arq58, -, Sq58, -, Hq58, -⟩ := id f50
  obtain ⟨cq59, Arq59, -, Sq59, -, Hq59, -⟩ := id f50
  obtain ⟨cq60, Arq60, -, Sq60, -, Hq60, -⟩ := id f50
  obtain ⟨cq61, kq61, q61a, q61b, q61c⟩ := isOf hZ e56 f45
  obtain ⟨_, _, ⟨T61, L61, k61, n61⟩, -, X61, ⟨Lc61, hQ61, l61, y61, z61⟩, st61⟩ := X56.virtualBack hx (y := (⟨"com/example/leeway/leeway/lp/SparseColumn", "add", "(ID)V"⟩ : MethodName)) (z := (⟨"com/example/leeway/leeway/lp/SparseColumn", "add", "(ID)V"⟩ : MethodName)) hown (mvT hZ (hw _ (List.mem_of_getElem? (i := 35) rfl))) (mvT hZ (hw _ (List.mem_of_getElem? (i := 36) rfl))) (notFace_of_selects (args := #[]) (mvT hZ (hw _ (List.mem_of_getElem? (i := 38) rfl)))) (mvT hZ (hw _ (List.mem_of_getElem? (i := 38) rfl))) (mvT hZ (hw _ (List.mem_of_getElem? (i := 37) rfl))) (by decide) (backOf (W := 0) (addN0 l Z a0 hw [] b1 b2_2 b15_2 b30_2 k2_2 k15_2 k30_2 i1 (0 : Int32) (0 : Int32) (0 : Int32) ([(.double (0 : UInt64)), (.double (0 : UInt64)), (.double (0 : UInt64)), (.double (0 : UInt64))] : List Value) ([(.int (0 : Int32)), (.int (0 : Int32)), (.int (0 : Int32)), (.int (0 : Int32))] : List Value) U9 M9 i4 (FP.i2d p4) (0 : UInt64) y9 T44.heap n0 Zs44 f46 f47 f48 f49 f45 f50 f51 f52 g_b1 g_b2_2 g_b15_2 g_b30_2 ne_b1_b2_2 ne_b1_b15_2 ne_b1_b30_2 r6 r7 r8 hix_160 hrl_160 hrv_160 hvl_160 hll_160 hls_160 hvs_160 nn41_160 hq41_160) hZ (hw _ (List.mem_of_getElem? (i := 39) rfl)) (hw _ (List.mem_of_getElem? (i := 2) rfl)) (by decide) (by decide)) q61a q61c (g := (mkF m 160 #[.val (.int p0), .val (.int p1), .val (.int p2), .val (.int p3), .val (.int p4), .val (.int (2 : Int32)), .val (.int i1), .val (.int i2), .val (.int i3), .val (.int i4), .val (.ref b1), .val (.ref b2_2), .val (.int (1 : Int32))] [(.double (FP.i2d p4)), (.int i4), (.ref b1)])) rfl (by rw [hml]; rfl) (Steps.refl _) (argsL := [(.int i4), (.double (FP.i2d p4))]) (rest := []) (lenOf pd_4 rfl) rfl (by show 2 * 0 + _ ≤ _; exact Nat.le_of_eq rfl) (hb hby at_160) (fun _ _ => ⟨rfl, e56, (by decide : 4 + 0 ≤ _), (by decide : 16 + 0 ≤ _)⟩)
  dsimp only [Pt.U, Pt.locs, Pt.cells, Pt.slots] at X61 l61 y61 z61 st61 hQ61
  subst l61 y61 z61
  obtain ⟨rfl, N61q, K61q, f62, f63, f64, f65, f66, f67, f68, f69⟩ := hQ61
  have N61 := Fr.app N56 N61q
  have f70 := f45.keep K61q
  have K61 : Keep h0 T61.heap [] := K44.trans K61q (own_allS (Or.inr sz_b15_2) (own_allS (Or.inr sz_b1) (own_allS (Or.inr sz_b30_2) (own_allS (Or.inr sz_b2_2) own_all0))))
  have Zs61 := Nat.le_trans Zs44 K61q.1
  obtain ⟨cq71, kq71, q71a, q71b, q71c⟩ := isOf hZ rfl f62
  obtain ⟨_, _, ⟨T71, L71, k71, n71⟩, -, X71, ⟨Lc71, hQ71, l71, y71, z71⟩, st71⟩ := X61.virtualBack hx (y := (⟨"com/example/leeway/leeway/lp/SparseColumn", "values", "()[D"⟩ : MethodName)) (z := (⟨"com/example/leeway/leeway/lp/SparseColumn", "values", "()[D"⟩ : MethodName)) hown (mvT hZ (hw _ (List.mem_of_getElem? (i := 25) rfl))) (mvT hZ (hw _ (List.mem_of_getElem? (i := 26) rfl))) (notFace_of_selects (args := #[]) (mvT hZ (hw _ (List.mem_of_getElem? (i := 28) rfl)))) (mvT hZ (hw _ (List.mem_of_getElem? (i := 28) rfl))) (mvT hZ (hw _ (List.mem_of_getElem? (i := 27) rfl))) (by decide) (backOf (W := 0) (gv l Z a0 hw [] b1 b2_2 b15_2 b30_2 k2_2 k15_2 k30_2 i4 (0 : Int32) (0 : Int32) (0 : Int32) U9 M9 (1 : Int32) T61.heap n0 Zs61 f63 f64 f65 f66 f62 f67 f68 f69) hZ (hw _ (List.mem_of_getElem? (i := 29) rfl)) (hw _ (List.mem_of_getElem? (i := 2) rfl)) (by decide) (by decide)) q71a q71c (g := (mkF m 165 #[.val (.int p0), .val (.int p1), .val (.int p2), .val (.int p3), .val (.int p4), .val (.int (2 : Int32)), .val (.int i1), .val (.int i2), .val (.int i3), .val (.int i4), .val (.ref b1), .val (.ref b2_2), .val (.int (1 : Int32))] [(.ref b1)])) rfl (by rw [hml]; rfl) (Steps.refl _) (argsL := []) (rest := []) (lenOf pd_2 rfl) rfl (by show 2 * 0 + _ ≤ _; exact Nat.le_of_eq rfl) (hb hby at_165) (fun _ _ => ⟨rfl, rfl, (by decide : 4 + 0 ≤ _), (by decide : 16 + 0 ≤ _)⟩)
  dsimp only [Pt.U, Pt.locs, Pt.cells, Pt.slots] at X71 l71 y71 z71 st71 hQ71
  subst l71 y71 z71
  obtain ⟨rfl, N71q, eh71⟩ := hQ71
  have N71 := Fr.app N61 N71q
  have e71 : T71.heap = T61.heap := eh71
  obtain ⟨cq72, kq72, q72a, q72b, q72c⟩ := isOf hZ e71 f62
  obtain ⟨_, _, ⟨T72, L72, k72, n72⟩, -, X72, ⟨Lc72, hQ72, l72, y72, z72⟩, st72⟩ := X71.virtualBack hx (y := (⟨"com/example/leeway/leeway/lp/SparseColumn", "count", "()I"⟩ : MethodName)) (z := (⟨"com/example/leeway/leeway/lp/SparseColumn", "count", "()I"⟩ : MethodName)) hown (mvT hZ (hw _ (List.mem_of_getElem? (i := 30) rfl))) (mvT hZ (hw _ (List.mem_of_getElem? (i := 31) rfl))) (notFace_of_selects (args := #[]) (mvT hZ (hw _ (List.mem_of_getElem? (i := 33) rfl)))) (mvT hZ (hw _ (List.mem_of_getElem? (i := 33) rfl))) (mvT hZ (hw _ (List.mem_of_getElem? (i := 32) rfl))) (by decide) (backOf (W := 0) (gc l Z a0 hw [] b1 b2_2 b15_2 b30_2 k2_2 k15_2 k30_2 i4 (0 : Int32) (0 : Int32) (0 : Int32) U9 M9 (1 : Int32) T61.heap n0 Zs61 f63 f64 f65 f66 f62 f67 f68 f69) hZ (hw _ (List.mem_of_getElem? (i := 34) rfl)) (hw _ (List.mem_of_getElem? (i := 2) rfl)) (by decide) (by decide)) q72a q72c (g := (mkF m 177 #[.val (.int p0), .val (.int p1), .val (.int p2), .val (.int p3), .val (.int p4), .val (.int (2 : Int32)), .val (.int i1), .val (.int i2), .val (.int i3), .val (.int i4), .val (.ref b1), .val (.ref b2_2), .val (.int (1 : Int32))] [(.ref b1)])) rfl (by rw [hml]; rfl) (Steps.refl _) (argsL := []) (rest := []) (lenOf pd_3 rfl) rfl (by show 2 * 0 + _ ≤ _; exact Nat.le_of_eq rfl) (hb hby at_177) (fun _ _ => ⟨rfl, e71, (by decide : 4 + 0 ≤ _), (by decide : 16 + 0 ≤ _)⟩)
  dsimp only [Pt.U, Pt.locs, Pt.cells, Pt.slots] at X72 l72 y72 z72 st72 hQ72
  subst l72 y72 z72
  obtain ⟨rfl, N72q, eh72⟩ := hQ72
  have N72 := Fr.app N71 N72q
  have e72 : T72.heap = T61.heap := eh72
  obtain ⟨cq73, kq73, q73a, q73b, q73c⟩ := isOf hZ e72 f62
  obtain ⟨_, _, ⟨T73, L73, k73, n73⟩, -, X73, ⟨Lc73, hQ73, l73, y73, z73⟩, st73⟩ := X72.virtualBack hx (y := (⟨"com/example/leeway/leeway/lp/SparseColumn", "rows", "()[I"⟩ : MethodName)) (z := (⟨"com/example/leeway/leeway/lp/SparseColumn", "rows", "()[I"⟩ : MethodName)) hown (mvT hZ (hw _ (List.mem_of_getElem? (i := 40) rfl))) (mvT hZ (hw _ (List.mem_of_getElem? (i := 41) rfl))) (notFace_of_selects (args := #[]) (mvT hZ (hw _ (List.mem_of_getElem? (i := 43) rfl)))) (mvT hZ (hw _ (List.mem_of_getElem? (i := 43) rfl))) (mvT hZ (hw _ (List.mem_of_getElem? (i := 42) rfl))) (by decide) (backOf (W := 0) (gr l Z a0 hw [] b1 b2_2 b15_2 b30_2 k2_2 k15_2 k30_2 i4 (0 : Int32) (0 : Int32) (0 : Int32) U9 M9 (1 : Int32) T61.heap n0 Zs61 f63 f64 f65 f66 f62 f67 f68 f69) hZ (hw _ (List.mem_of_getElem? (i := 44) rfl)) (hw _ (List.mem_of_getElem? (i := 2) rfl)) (by decide) (by decide)) q73a q73c (g := (mkF m 186 #[.val (.int p0), .val (.int p1), .val (.int p2), .val (.int p3), .val (.int p4), .val (.int (2 : Int32)), .val (.int i1), .val (.int i2), .val (.int i3), .val (.int i4), .val (.ref b1), .val (.ref b2_2), .val (.int (1 : Int32))] [(.ref b1)])) rfl (by rw [hml]; rfl) (Steps.refl _) (argsL := []) (rest := []) (lenOf pd_5 rfl) rfl (by show 2 * 0 + _ ≤ _; exact Nat.le_of_eq rfl) (hb hby at_186) (fun _ _ => ⟨rfl, e72, (by decide : 4 + 0 ≤ _), (by decide : 16 + 0 ≤ _)⟩)
  dsimp only [Pt.U, Pt.locs, Pt.cells, Pt.slots] at X73 l73 y73 z73 st73 hQ73
  subst l73 y73 z73
  obtain ⟨rfl, N73q, eh73⟩ := hQ73
  have N73 := Fr.app N72 N73q
  have e73 : T73.heap = T61.heap := eh73
  obtain ⟨cq74, Arq74, -, Sq74, -, Hq74, -⟩ := id f69
  obtain ⟨cq75, Arq75, -, Sq75, -, Hq75, -⟩ := id f67
  obtain ⟨_, _, ⟨T76, L76, k76, n76⟩, -, X76, ⟨Lc76, hQ76, l76, y76, z76⟩, st76⟩ := Jvm.LawKit.callS X73 hx (y := (⟨"com/example/leeway/leeway/lp/SparseColumnClearPinLaw", "zeroUnless", "([DII)Z"⟩ : MethodName)) hown (mvT hZ (hw _ (List.mem_of_getElem? (i := 45) rfl))) (mvT hZ (hw _ (List.mem_of_getElem? (i := 46) rfl))) (mvT hZ (hw _ (List.mem_of_getElem? (i := 47) rfl))) (mvT hZ (hw _ (List.mem_of_getElem? (i := 48) rfl))) (by decide) (backOf (W := 0) (zu l Z a0 hw [] b2_2 k2_2 U9 (0 : Int32) i4 T61.heap n0 Zs61 f67 hix_225 hrd_225 hd9_225) hZ (hw _ (List.mem_of_getElem? (i := 48) rfl)) (hw _ (List.mem_of_getElem? (i := 47) rfl)) (by decide) (by decide)) (g := (mkF m 225 #[.val (.int p0), .val (.int p1), .val (.int p2), .val (.int p3), .val (.int p4), .val (.int (2 : Int32)), .val (.int i1), .val (.int i2), .val (.int i3), .val (.int i4), .val (.ref b1), .val (.ref b2_2), .val (.int (1 : Int32))] [(.int i4), (.int (0 : Int32)), (.ref b2_2)])) rfl (by rw [hml]; rfl) (argsL := [(.ref b2_2), (.int (0 : Int32)), (.int i4)]) (rest := []) (lenOf pd_6 rfl) rfl (by show 2 * 0 + _ ≤ _; exact Nat.le_of_eq rfl) (hb hby at_225) (fun _ _ => ⟨rfl, e73, (by decide : 4 + 0 ≤ _), (by decide : 16 + 0 ≤ _)⟩)
  dsimp only [Pt.U, Pt.locs, Pt.cells, Pt.slots] at X76 l76 y76 z76 st76 hQ76
  subst l76 y76 z76
  obtain ⟨rfl, N76q, eh76⟩ := hQ76
  have N76 := Fr.app N73 N76q
  have e76 : T76.heap = T61.heap := eh76
  obtain ⟨_, _, ⟨T77, L77, k77, n77⟩, -, X77, ⟨Lc77, hQ77, l77, y77, z77⟩, st77⟩ := Jvm.LawKit.callS X76 hx (y := (⟨"com/example/leeway/leeway/lp/SparseColumnClearPinLaw", "zeroUnless", "([DII)Z"⟩ : MethodName)) hown (mvT hZ (hw _ (List.mem_of_getElem? (i := 45) rfl))) (mvT hZ (hw _ (List.mem_of_getElem? (i := 46) rfl))) (mvT hZ (hw _ (List.mem_of_getElem? (i := 47) rfl))) (mvT hZ (hw _ (List.mem_of_getElem? (i := 48) rfl))) (by decide) (backOf (W := 0) (zu l Z a0 hw [] b2_2 k2_2 U9 (1 : Int32) i4 T61.heap n0 Zs61 f67 hix_236 hrd_236 hd9_236) hZ (hw _ (List.mem_of_getElem? (i := 48) rfl)) (hw _ (List.mem_of_getElem? (i := 47) rfl)) (by decide) (by decide)) (g := (mkF m 236 #[.val (.int p0), .val (.int p1), .val (.int p2), .val (.int p3), .val (.int p4), .val (.int (2 : Int32)), .val (.int i1), .val (.int i2), .val (.int i3), .val (.int i4), .val (.ref b1), .val (.ref b2_2), .val (.int (1 : Int32))] [(.int i4), (.int (1 : Int32)), (.ref b2_2)])) rfl (by rw [hml]; rfl) (argsL := [(.ref b2_2), (.int (1 : Int32)), (.int i4)]) (rest := []) (lenOf pd_6 rfl) rfl (by show 2 * 0 + _ ≤ _; exact Nat.le_of_eq rfl) (hb hby at_236) (fun _ _ => ⟨rfl, e76, (by decide : 4 + 0 ≤ _), (by decide : 16 + 0 ≤ _)⟩)
  dsimp only [Pt.U, Pt.locs, Pt.cells, Pt.slots] at X77 l77 y77 z77 st77 hQ77
  subst l77 y77 z77
  obtain ⟨rfl, N77q, eh77⟩ := hQ77
  have N77 := Fr.app N76 N77q
  have e77 : T77.heap = T61.heap := eh77
  obtain ⟨_, _, ⟨T78, L78, k78, n78⟩, -, X78, ⟨Lc78, hQ78, l78, y78, z78⟩, st78⟩ := Jvm.LawKit.callS X77 hx (y := (⟨"com/example/leeway/leeway/lp/SparseColumnClearPinLaw", "zeroUnless", "([DII)Z"⟩ : MethodName)) hown (mvT hZ (hw _ (List.mem_of_getElem? (i := 45) rfl))) (mvT hZ (hw _ (List.mem_of_getElem? (i := 46) rfl))) (mvT hZ (hw _ (List.mem_of_getElem? (i := 47) rfl))) (mvT hZ (hw _ (List.mem_of_getElem? (i := 48) rfl))) (by decide) (backOf (W := 0) (zu l Z a0 hw [] b2_2 k2_2 U9 (2 : Int32) i4 T61.heap n0 Zs61 f67 hix_247 hrd_247 hd9_247) hZ (hw _ (List.mem_of_getElem? (i := 48) rfl)) (hw _ (List.mem_of_getElem? (i := 47) rfl)) (by decide) (by decide)) (g := (mkF m 247 #[.val (.int p0), .val (.int p1), .val (.int p2), .val (.int p3), .val (.int p4), .val (.int (2 : Int32)), .val (.int i1), .val (.int i2), .val (.int i3), .val (.int i4), .val (.ref b1), .val (.ref b2_2), .val (.int (1 : Int32))] [(.int i4), (.int (2 : Int32)), (.ref b2_2)])) rfl (by rw [hml]; rfl) (argsL := [(.ref b2_2), (.int (2 : Int32)), (.int i4)]) (rest := []) (lenOf pd_6 rfl) rfl (by show 2 * 0 + _ ≤ _; exact Nat.le_of_eq rfl) (hb hby at_247) (fun _ _ => ⟨rfl, e77, (by decide : 4 + 0 ≤ _), (by decide : 16 + 0 ≤ _)⟩)
  dsimp only [Pt.U, Pt.locs, Pt.cells, Pt.slots] at X78 l78 y78 z78 st78 hQ78
  subst l78 y78 z78
  obtain ⟨rfl, N78q, eh78⟩ := hQ78
  have N78 := Fr.app N77 N78q
  have e78 : T78.heap = T61.heap := eh78
  obtain ⟨_, _, ⟨T79, L79, k79, n79⟩, -, X79, ⟨Lc79, hQ79, l79, y79, z79⟩, st79⟩ := Jvm.LawKit.callS X78 hx (y := (⟨"com/example/leeway/leeway/lp/SparseColumnClearPinLaw", "zeroUnless", "([DII)Z"⟩ : MethodName)) hown (mvT hZ (hw _ (List.mem_of_getElem? (i := 45) rfl))) (mvT hZ (hw _ (List.mem_of_getElem? (i := 46) rfl))) (mvT hZ (hw _ (List.mem_of_getElem? (i := 47) rfl))) (mvT hZ (hw _ (List.mem_of_getElem? (i := 48) rfl))) (by decide) (backOf (W := 0) (zu l Z a0 hw [] b2_2 k2_2 U9 (3 : Int32) i4 T61.heap n0 Zs61 f67 hix_258 hrd_258 hd9_258) hZ (hw _ (List.mem_of_getElem? (i := 48) rfl)) (hw _ (List.mem_of_getElem? (i := 47) rfl)) (by decide) (by decide)) (g := (mkF m 258 #[.val (.int p0), .val (.int p1), .val (.int p2), .val (.int p3), .val (.int p4), .val (.int (2 : Int32)), .val (.int i1), .val (.int i2), .val (.int i3), .val (.int i4), .val (.ref b1), .val (.ref b2_2), .val (.int (1 : Int32))] [(.int i4), (.int (3 : Int32)), (.ref b2_2)])) rfl (by rw [hml]; rfl) (argsL := [(.ref b2_2), (.int (3 : Int32)), (.int i4)]) (rest := []) (lenOf pd_6 rfl) rfl (by show 2 * 0 + _ ≤ _; exact Nat.le_of_eq rfl) (hb hby at_258) (fun _ _ => ⟨rfl, e78, (by decide : 4 + 0 ≤ _), (by decide : 16 + 0 ≤ _)⟩)
  dsimp only [Pt.U, Pt.locs, Pt.cells, Pt.slots] at X79 l79 y79 z79 st79 hQ79
  subst l79 y79 z79
  obtain ⟨rfl, N79q, eh79⟩ := hQ79
  have N79 := Fr.app N78 N79q
  have e79 : T79.heap = T61.heap := eh79
  obtain ⟨fs, hr, hrun, hended, hW, hsame⟩ := X79.leave (v := some (.int (1 : Int32))) (fun h => by rw [Bd.returns] at h; cases h)
  refine ⟨_, _, pre0 _ ?_, hrun, hended, _, _, rfl, ?_, ⟨_, rfl⟩, hW, hsame.mono (by decide) (by decide)⟩
  · show Steps p.tables e below (s₁.setTop (mkF m 0 #[.val (.int p0), .val (.int p1), .val (.int p2), .val (.int p3), .val (.int p4), .unset, .unset, .unset, .unset, .unset, .unset, .unset, .unset] [])) _
    refine XS.iloadN X0.here hx rfl (hb hby at_0) rfl ?_
    refine XS.iconst X0.here hx rfl (hb hby at_1) ?_
    refine XS.iand X0.here hx rfl (hb hby at_2) rfl ?_
    show Steps p.tables e below (s₁.setTop (mkF m 3 #[.val (.int p0), .val (.int p1), .val (.int p2), .val (.int p3), .val (.int p4), .unset, .unset, .unset, .unset, .unset, .unset, .unset, .unset] [(.int (p0 &&& (3 : Int32)))])) _
    rw [hv2]
    show Steps p.tables e below (s₁.setTop (mkF m 3 #[.val (.int p0), .val (.int p1), .val (.int p2), .val (.int p3), .val (.int p4), .unset, .unset, .unset, .unset, .unset, .unset, .unset, .unset] [(.int (2 : Int32))])) _
    refine XS.istore X0.here hx rfl (hb hby at_3) rfl (l' := #[.val (.int p0), .val (.int p1), .val (.int p2), .val (.int p3), .val (.int p4), .val (.int (2 : Int32)), .unset, .unset, .unset, .unset, .unset, .unset, .unset]) rfl ?_
    show Steps p.tables e below (s₁.setTop (mkF m 5 #[.val (.int p0), .val (.int p1), .val (.int p2), .val (.int p3), .val (.int p4), .val (.int (2 : Int32)), .unset, .unset, .unset, .unset, .unset, .unset, .unset] [])) _
    refine XS.iloadN X0.here hx rfl (hb hby at_5) rfl ?_
    refine XS.iconst X0.here hx rfl (hb hby at_6) ?_
    refine XS.iushr X0.here hx rfl (hb hby at_7) rfl ?_
    refine XS.iconst X0.here hx rfl (hb hby at_8) ?_
    refine XS.iand X0.here hx rfl (hb hby at_9) rfl ?_
    show Steps p.tables e below (s₁.setTop (mkF m 10 #[.val (.int p0), .val (.int p1), .val (.int p2), .val (.int p3), .val (.int p4), .val (.int (2 : Int32)), .unset, .unset, .unset, .unset, .unset, .unset, .unset] [(.int (((p0.toUInt32 >>> ((2 : Int32) &&& 31).toUInt32).toInt32) &&& (3 : Int32)))])) _
    rw [hv9]
    show Steps p.tables e below (s₁.setTop (mkF m 10 #[.val (.int p0), .val (.int p1), .val (.int p2), .val (.int p3), .val (.int p4), .val (.int (2 : Int32)), .unset, .unset, .unset, .unset, .unset, .unset, .unset] [(.int i1)])) _
    refine XS.istore X0.here hx rfl (hb hby at_10) rfl (l' := #[.val (.int p0), .val (.int p1), .val (.int p2), .val (.int p3), .val (.int p4), .val (.int (2 : Int32)), .val (.int i1), .unset, .unset, .unset, .unset, .unset, .unset]) rfl ?_
    refine XS.iloadN X0.here hx rfl (hb hby at_12) rfl ?_
    refine XS.iconst X0.here hx rfl (hb hby at_13) ?_
    refine XS.iushr X0.here hx rfl (hb hby at_14) rfl ?_
    refine XS.iconst X0.here hx rfl (hb hby at_15) ?_
    refine XS.iand X0.here hx rfl (hb hby at_16) rfl ?_
    show Steps p.tables e below (s₁.setTop (mkF m 17 #[.val (.int p0), .val (.int p1), .val (.int p2), .val (.int p3), .val (.int p4), .val (.int (2 : Int32)), .val (.int i1), .unset, .unset, .unset, .unset, .unset, .unset] [(.int (((p0.toUInt32 >>> ((4 : Int32) &&& 31).toUInt32).toInt32) &&& (3 : Int32)))])) _
    rw [hv16]
    show Steps p.tables e below (s₁.setTop (mkF m 17 #[.val (.int p0), .val (.int p1), .val (.int p2), .val (.int p3), .val (.int p4), .val (.int (2 : Int32)), .val (.int i1), .unset, .unset, .unset, .unset, .unset, .unset] [(.int i2)])) _
    refine XS.istore X0.here hx rfl (hb hby at_17) rfl (l' := #[.val (.int p0), .val (.int p1), .val (.int p2), .val (.int p3), .val (.int p4), .val (.int (2 : Int32)), .val (.int i1), .val (.int i2), .unset, .unset, .unset, .unset, .unset]) rfl ?_
    refine XS.iloadN X0.here hx rfl (hb hby at_19) rfl ?_
    refine XS.bipush X0.here hx rfl (hb hby at_20) ?_
    refine XS.iushr X0.here hx rfl (hb hby at_22) rfl ?_
    refine XS.iconst X0.here hx rfl (hb hby at_23) ?_
    show Steps p.tables e below (s₁.setTop (mkF m 24 #[.val (.int p0), .val (.int p1), .val (.int p2), .val (.int p3), .val (.int p4), .val (.int (2 : Int32)), .val (.int i1), .val (.int i2), .unset, .unset, .unset, .unset, .unset] [(.int (3 : Int32)), (.int ((p0.toUInt32 >>> ((6 : Int32) &&& 31).toUInt32).toInt32))])) _
    refine XS.iand X0.here hx rfl (hb hby at_24) rfl ?_
    show Steps p.tables e below (s₁.setTop (mkF m 25 #[.val (.int p0), .val (.int p1), .val (.int p2), .val (.int p3), .val (.int p4), .val (.int (2 : Int32)), .val (.int i1), .val (.int i2), .unset, .unset, .unset, .unset, .unset] [(.int (((p0.toUInt32 >>> ((6 : Int32) &&& 31).toUInt32).toInt32) &&& (3 : Int32)))])) _
    rw [hv24]
    show Steps p.tables e below (s₁.setTop (mkF m 25 #[.val (.int p0), .val (.int p1), .val (.int p2), .val (.int p3), .val (.int p4), .val (.int (2 : Int32)), .val (.int i1), .val (.int i2), .unset, .unset, .unset, .unset, .unset] [(.int i3)])) _
    refine XS.istore X0.here hx rfl (hb hby at_25) rfl (l' := #[.val (.int p0), .val (.int p1), .val (.int p2), .val (.int p3), .val (.int p4), .val (.int (2 : Int32)), .val (.int i1), .val (.int i2), .val (.int i3), .unset, .unset, .unset, .unset]) rfl ?_
    refine XS.iloadN X0.here hx rfl (hb hby at_27) rfl ?_
    refine XS.bipush X0.here hx rfl (hb hby at_28) ?_
    refine XS.iushr X0.here hx rfl (hb hby at_30) rfl ?_
    show Steps p.tables e below (s₁.setTop (mkF m 31 #[.val (.int p0), .val (.int p1), .val (.int p2), .val (.int p3), .val (.int p4), .val (.int (2 : Int32)), .val (.int i1), .val (.int i2), .val (.int i3), .unset, .unset, .unset, .unset] [(.int ((p0.toUInt32 >>> ((8 : Int32) &&& 31).toUInt32).toInt32))])) _
    refine XS.iconst X0.here hx rfl (hb hby at_31) ?_
    refine XS.iand X0.here hx rfl (hb hby at_32) rfl ?_
    show Steps p.tables e below (s₁.setTop (mkF m 33 #[.val (.int p0), .val (.int p1), .val (.int p2), .val (.int p3), .val (.int p4), .val (.int (2 : Int32)), .val (.int i1), .val (.int i2), .val (.int i3), .unset, .unset, .unset, .unset] [(.int (((p0.toUInt32 >>> ((8 : Int32) &&& 31).toUInt32).toInt32) &&& (3 : Int32)))])) _
    rw [hv32]
    show Steps p.tables e below (s₁.setTop (mkF m 33 #[.val (.int p0), .val (.int p1), .val (.int p2), .val (.int p3), .val (.int p4), .val (.int (2 : Int32)), .val (.int i1), .val (.int i2), .val (.int i3), .unset, .unset, .unset, .unset] [(.int i4)])) _
    refine XS.istore X0.here hx rfl (hb hby at_33) rfl (l' := #[.val (.int p0), .val (.int p1), .val (.int p2), .val (.int p3), .val (.int p4), .val (.int (2 : Int32)), .val (.int i1), .val (.int i2), .val (.int i3), .val (.int i4), .unset, .unset, .unset]) rfl ?_
    refine st1 _ ?_
    show Steps p.tables e below (T1.setTop (mkF m 38 #[.val (.int p0), .val (.int p1), .val (.int p2), .val (.int p3), .val (.int p4), .val (.int (2 : Int32)), .val (.int i1), .val (.int i2), .val (.int i3), .val (.int i4), .unset, .unset, .unset] [(.ref b1)])) _
    refine XS.dup X1.here hx rfl (hb hby at_38) rfl rfl ?_
    show Steps p.tables e below (T1.setTop (mkF m 39 #[.val (.int p0), .val (.int p1), .val (.int p2), .val (.int p3), .val (.int p4), .val (.int (2 : Int32)), .val (.int i1), .val (.int i2), .val (.int i3), .val (.int i4), .unset, .unset, .unset] [(.ref b1), (.ref b1)])) _
    refine XS.iconst X1.here hx rfl (hb hby at_39) ?_
    refine st2.trans ?_
    show Steps p.tables e below (T2.setTop (mkF m 43 #[.val (.int p0), .val (.int p1), .val (.int p2), .val (.int p3), .val (.int p4), .val (.int (2 : Int32)), .val (.int i1), .val (.int i2), .val (.int i3), .val (.int i4), .unset, .unset, .unset] [(.ref b1)])) _
    refine XS.astore X2.here hx rfl (hb hby at_43) rfl rfl (l' := #[.val (.int p0), .val (.int p1), .val (.int p2), .val (.int p3), .val (.int p4), .val (.int (2 : Int32)), .val (.int i1), .val (.int i2), .val (.int i3), .val (.int i4), .val (.ref b1), .unset, .unset]) rfl ?_
    refine XS.iload X2.here hx rfl (hb hby at_45) rfl ?_
    refine XS.iconst X2.here hx rfl (hb hby at_47) ?_
    refine XS.icmpNo X2.here hx rfl (hb hby at_48) rfl (flt (by decide : ¬ ((2 : Int32) < (1 : Int32)))).1 ?_
    show Steps p.tables e below (T2.setTop (mkF m 51 #[.val (.int p0), .val (.int p1), .val (.int p2), .val (.int p3), .val (.int p4), .val (.int (2 : Int32)), .val (.int i1), .val (.int i2), .val (.int i3), .val (.int i4), .val (.ref b1), .unset, .unset] [])) _
    refine XS.aload X2.here hx rfl (hb hby at_51) rfl rfl ?_
    refine XS.iload X2.here hx rfl (hb hby at_53) rfl ?_
    refine XS.iloadN X2.here hx rfl (hb hby at_55) rfl ?_
    refine XS.i2dS X2.here hx rfl (hb hby at_56) rfl (v := (FP.i2d p1)) rfl ?_
    refine st18.trans ?_
    show Steps p.tables e below (T18.setTop (mkF m 60 #[.val (.int p0), .val (.int p1), .val (.int p2), .val (.int p3), .val (.int p4), .val (.int (2 : Int32)), .val (.int i1), .val (.int i2), .val (.int i3), .val (.int i4), .val (.ref b1), .unset, .unset] [])) _
    refine XS.iload X18.here hx rfl (hb hby at_60) rfl ?_
    show Steps p.tables e below (T18.setTop (mkF m 62 #[.val (.int p0), .val (.int p1), .val (.int p2), .val (.int p3), .val (.int p4), .val (.int (2 : Int32)), .val (.int i1), .val (.int i2), .val (.int i3), .val (.int i4), .val (.ref b1), .unset, .unset] [(.int (2 : Int32))])) _
    refine XS.iconst X18.here hx rfl (hb hby at_62) ?_
    refine XS.icmpNo X18.here hx rfl (hb hby at_63) rfl (flt (by decide : ¬ ((2 : Int32) < (2 : Int32)))).1 ?_
    refine XS.aload X18.here hx rfl (hb hby at_66) rfl rfl ?_
    refine XS.iload X18.here hx rfl (hb hby at_68) rfl ?_
    refine XS.iloadN X18.here hx rfl (hb hby at_70) rfl ?_
    refine XS.i2dS X18.here hx rfl (hb hby at_71) rfl (v := (FP.i2d p2)) rfl ?_
    show Steps p.tables e below (T18.setTop (mkF m 72 #[.val (.int p0), .val (.int p1), .val (.int p2), .val (.int p3), .val (.int p4), .val (.int (2 : Int32)), .val (.int i1), .val (.int i2), .val (.int i3), .val (.int i4), .val (.ref b1), .unset, .unset] [(.double (FP.i2d p2)), (.int i2), (.ref b1)])) _
    refine st28.trans ?_
    show Steps p.tables e below (T28.setTop (mkF m 75 #[.val (.int p0), .val (.int p1), .val (.int p2), .val (.int p3), .val (.int p4), .val (.int (2 : Int32)), .val (.int i1), .val (.int i2), .val (.int i3), .val (.int i4), .val (.ref b1), .unset, .unset] [])) _
    refine XS.iload X28.here hx rfl (hb hby at_75) rfl ?_
    refine XS.iconst X28.here hx rfl (hb hby at_77) ?_
    refine XS.icmpYes X28.here hx rfl (pc0 := 78) (pc' := 90) rfl (hb hby at_78) rfl (tlt (by decide : (2 : Int32) < (3 : Int32))).1 (by decide) (by decide) ?_
    refine XS.aload X28.here hx rfl (hb hby at_90) rfl rfl ?_
    refine st44.trans ?_
    show Steps p.tables e below (T44.setTop (mkF m 95 #[.val (.int p0), .val (.int p1), .val (.int p2), .val (.int p3), .val (.int p4), .val (.int (2 : Int32)), .val (.int i1), .val (.int i2), .val (.int i3), .val (.int i4), .val (.ref b1), .unset, .unset] [])) _
    refine XS.aload X44.here hx rfl (hb hby at_95) rfl rfl ?_
    refine st55.trans ?_
    show Steps p.tables e below (T55.setTop (mkF m 100 #[.val (.int p0), .val (.int p1), .val (.int p2), .val (.int p3), .val (.int p4), .val (.int (2 : Int32)), .val (.int i1), .val (.int i2), .val (.int i3), .val (.int i4), .val (.ref b1), .unset, .unset] [(.ref b2_2)])) _
    refine XS.astore X55.here hx rfl (hb hby at_100) rfl rfl (l' := #[.val (.int p0), .val (.int p1), .val (.int p2), .val (.int p3), .val (.int p4), .val (.int (2 : Int32)), .val (.int i1), .val (.int i2), .val (.int i3), .val (.int i4), .val (.ref b1), .val (.ref b2_2), .unset]) rfl ?_
    refine XS.aload X55.here hx rfl (hb hby at_102) rfl rfl ?_
    refine st56.trans ?_
    show Steps p.tables e below (T56.setTop (mkF m 107 #[.val (.int p0), .val (.int p1), .val (.int p2), .val (.int p3), .val (.int p4), .val (.int (2 : Int32)), .val (.int i1), .val (.int i2), .val (.int i3), .val (.int i4), .val (.ref b1), .val (.ref b2_2), .unset] [(.int (0 : Int32))])) _
    refine XS.ifNo X56.here hx rfl (hb hby at_107) rfl ((if0 _ _).trans (teq (by decide : (0 : Int32) = (0 : Int32))).2) ?_
    show Steps p.tables e below (T56.setTop (mkF m 110 #[.val (.int p0), .val (.int p1), .val (.int p2), .val (.int p3), .val (.int p4), .val (.int (2 : Int32)), .val (.int i1), .val (.int i2), .val (.int i3), .val (.int i4), .val (.ref b1), .val (.ref b2_2), .unset] [])) _
    refine XS.aload X56.here hx rfl (hb hby at_110) rfl rfl ?_
    refine XS.iconst X56.here hx rfl (hb hby at_112) ?_
    refine X56.daload hx (j := (0 : Int32)) (v := (.double (0 : UInt64))) (by rw [e56]; exact Arq57.1) (State.isArrayOf_alike hZ.alike Arq57.2.1) Arq57.2.2 (inb_of Sq57 ⟨by decide, by decide⟩) (Has.at Hq57 (inb_of Sq57 ⟨by decide, by decide⟩) rfl) (g := (mkF m 113 #[.val (.int p0), .val (.int p1), .val (.int p2), .val (.int p3), .val (.int p4), .val (.int (2 : Int32)), .val (.int i1), .val (.int i2), .val (.int i3), .val (.int i4), .val (.ref b1), .val (.ref b2_2), .unset] [(.int (0 : Int32)), (.ref b2_2)])) rfl rfl (hb hby at_113) _ ?_
    show Steps p.tables e below (T56.setTop (mkF m 114 #[.val (.int p0), .val (.int p1), .val (.int p2), .val (.int p3), .val (.int p4), .val (.int (2 : Int32)), .val (.int i1), .val (.int i2), .val (.int i3), .val (.int i4), .val (.ref b1), .val (.ref b2_2), .unset] [(.double (0 : UInt64))])) _
    refine XS.dconst0 X56.here hx rfl (hb hby at_114) (v := (0 : UInt64)) rfl ?_
    refine XS.dcmpS X56.here hx rfl (hb hby at_115) rfl (v := (0 : Int32)) hd115 ?_
    refine XS.ifNo X56.here hx rfl (hb hby at_116) rfl ((if0 _ _).trans (teq (by decide : (0 : Int32) = (0 : Int32))).2) ?_
    show Steps p.tables e below (T56.setTop (mkF m 119 #[.val (.int p0), .val (.int p1), .val (.int p2), .val (.int p3), .val (.int p4), .val (.int (2 : Int32)), .val (.int i1), .val (.int i2), .val (.int i3), .val (.int i4), .val (.ref b1), .val (.ref b2_2), .unset] [])) _
    refine XS.aload X56.here hx rfl (hb hby at_119) rfl rfl ?_
    refine XS.iconst X56.here hx rfl (hb hby at_121) ?_
    refine X56.daload hx (j := (1 : Int32)) (v := (.double (0 : UInt64))) (by rw [e56]; exact Arq58.1) (State.isArrayOf_alike hZ.alike Arq58.2.1) Arq58.2.2 (inb_of Sq58 ⟨by decide, by decide⟩) (Has.at Hq58 (inb_of Sq58 ⟨by decide, by decide⟩) rfl) (g := (mkF m 122 #[.val (.int p0), .val (.int p1), .val (.int p2), .val (.int p3), .val (.int p4), .val (.int (2 : Int32)), .val (.int i1), .val (.int i2), .val (.int i3), .val (.int i4), .val (.ref b1), .val (.ref b2_2), .unset] [(.int (1 : Int32)), (.ref b2_2)])) rfl rfl (hb hby at_122) _ ?_
    show Steps p.tables e below (T56.setTop (mkF m 123 #[.val (.int p0), .val (.int p1), .val (.int p2), .val (.int p3), .val (.int p4), .val (.int (2 : Int32)), .val (.int i1), .val (.int i2), .val (.int i3), .val (.int i4), .val (.ref b1), .val (.ref b2_2), .unset] [(.double (0 : UInt64))])) _
    refine XS.dconst0 X56.here hx rfl (hb hby at_123) (v := (0 : UInt64)) rfl ?_
    refine XS.dcmpS X56.here hx rfl (hb hby at_124) rfl (v := (0 : Int32)) hd124 ?_
    refine XS.ifNo X56.here hx rfl (hb hby at_125) rfl ((if0 _ _).trans (teq (by decide : (0 : Int32) = (0 : Int32))).2) ?_
    show Steps p.tables e below (T56.setTop (mkF m 128 #[.val (.int p0), .val (.int p1), .val (.int p2), .val (.int p3), .val (.int p4), .val (.int (2 : Int32)), .val (.int i1), .val (.int i2), .val (.int i3), .val (.int i4), .val (.ref b1), .val (.ref b2_2), .unset] [])) _
    refine XS.aload X56.here hx rfl (hb hby at_128) rfl rfl ?_
    refine XS.iconst X56.here hx rfl (hb hby at_130) ?_
    refine X56.daload hx (j := (2 : Int32)) (v := (.double (0 : UInt64))) (by rw [e56]; exact Arq59.1) (State.isArrayOf_alike hZ.alike Arq59.2.1) Arq59.2.2 (inb_of Sq59 ⟨by decide, by decide⟩) (Has.at Hq59 (inb_of Sq59 ⟨by decide, by decide⟩) rfl) (g := (mkF m 131 #[.val (.int p0), .val (.int p1), .val (.int p2), .val (.int p3), .val (.int p4), .val (.int (2 : Int32)), .val (.int i1), .val (.int i2), .val (.int i3), .val (.int i4), .val (.ref b1), .val (.ref b2_2), .unset] [(.int (2 : Int32)), (.ref b2_2)])) rfl rfl (hb hby at_131) _ ?_
    show Steps p.tables e below (T56.setTop (mkF m 132 #[.val (.int p0), .val (.int p1), .val (.int p2), .val (.int p3), .val (.int p4), .val (.int (2 : Int32)), .val (.int i1), .val (.int i2), .val (.int i3), .val (.int i4), .val (.ref b1), .val (.ref b2_2), .unset] [(.double (0 : UInt64))])) _
    refine XS.dconst0 X56.here hx rfl (hb hby at_132) (v := (0 : UInt64)) rfl ?_
    refine XS.dcmpS X56.here hx rfl (hb hby at_133) rfl (v := (0 : Int32)) hd133 ?_
    refine XS.ifNo X56.here hx rfl (hb hby at_134) rfl ((if0 _ _).trans (teq (by decide : (0 : Int32) = (0 : Int32))).2) ?_
    show Steps p.tables e below (T56.setTop (mkF m 137 #[.val (.int p0), .val (.int p1), .val (.int p2), .val (.int p3), .val (.int p4), .val (.int (2 : Int32)), .val (.int i1), .val (.int i2), .val (.int i3), .val (.int i4), .val (.ref b1), .val (.ref b2_2), .unset] [])) _
    refine XS.aload X56.here hx rfl (hb hby at_137) rfl rfl ?_
    refine XS.iconst X56.here hx rfl (hb hby at_139) ?_
    refine X56.daload hx (j := (3 : Int32)) (v := (.double (0 : UInt64))) (by rw [e56]; exact Arq60.1) (State.isArrayOf_alike hZ.alike Arq60.2.1) Arq60.2.2 (inb_of Sq60 ⟨by decide, by decide⟩) (Has.at Hq60 (inb_of Sq60 ⟨by decide, by decide⟩) rfl) (g := (mkF m 140 #[.val (.int p0), .val (.int p1), .val (.int p2), .val (.int p3), .val (.int p4), .val (.int (2 : Int32)), .val (.int i1), .val (.int i2), .val (.int i3), .val (.int i4), .val (.ref b1), .val (.ref b2_2), .unset] [(.int (3 : Int32)), (.ref b2_2)])) rfl rfl (hb hby at_140) _ ?_
    show Steps p.tables e below (T56.setTop (mkF m 141 #[.val (.int p0), .val (.int p1), .val (.int p2), .val (.int p3), .val (.int p4), .val (.int (2 : Int32)), .val (.int i1), .val (.int i2), .val (.int i3), .val (.int i4), .val (.ref b1), .val (.ref b2_2), .unset] [(.double (0 : UInt64))])) _
    refine XS.dconst0 X56.here hx rfl (hb hby at_141) (v := (0 : UInt64)) rfl ?_
    refine XS.dcmpS X56.here hx rfl (hb hby at_142) rfl (v := (0 : Int32)) hd142 ?_
    refine XS.ifNo X56.here hx rfl (hb hby at_143) rfl ((if0 _ _).trans (teq (by decide : (0 : Int32) = (0 : Int32))).2) ?_
    show Steps p.tables e below (T56.setTop (mkF m 146 #[.val (.int p0), .val (.int p1), .val (.int p2), .val (.int p3), .val (.int p4), .val (.int (2 : Int32)), .val (.int i1), .val (.int i2), .val (.int i3), .val (.int i4), .val (.ref b1), .val (.ref b2_2), .unset] [])) _
    refine XS.iconst X56.here hx rfl (hb hby at_146) ?_
    refine XS.goto X56.here hx rfl (pc0 := 147) (pc' := 151) rfl (hb hby at_147) (by decide) (by decide) ?_
    refine XS.istore X56.here hx rfl (hb hby at_151) rfl (l' := #[.val (.int p0), .val (.int p1), .val (.int p2), .val (.int p3), .val (.int p4), .val (.int (2 : Int32)), .val (.int i1), .val (.int i2), .val (.int i3), .val (.int i4), .val (.ref b1), .val (.ref b2_2), .val (.int (1 : Int32))]) rfl ?_
    refine XS.aload X56.here hx rfl (hb hby at_153) rfl rfl ?_
    refine XS.iload X56.here hx rfl (hb hby at_155) rfl ?_
    refine XS.iload X56.here hx rfl (hb hby at_157) rfl ?_
    show Steps p.tables e below (T56.setTop (mkF m 159 #[.val (.int p0), .val (.int p1), .val (.int p2), .val (.int p3), .val (.int p4), .val (.int (2 : Int32)), .val (.int i1), .val (.int i2), .val (.int i3), .val (.int i4), .val (.ref b1), .val (.ref b2_2), .val (.int (1 : Int32))] [(.int p4), (.int i4), (.ref b1)])) _
    refine XS.i2dS X56.here hx rfl (hb hby at_159) rfl (v := (FP.i2d p4)) rfl ?_
    refine st61.trans ?_
    show Steps p.tables e below (T61.setTop (mkF m 163 #[.val (.int p0), .val (.int p1), .val (.int p2), .val (.int p3), .val (.int p4), .val (.int (2 : Int32)), .val (.int i1), .val (.int i2), .val (.int i3), .val (.int i4), .val (.ref b1), .val (.ref b2_2), .val (.int (1 : Int32))] [])) _
    refine XS.aload X61.here hx rfl (hb hby at_163) rfl rfl ?_
    refine st71.trans ?_
    show Steps p.tables e below (T71.setTop (mkF m 168 #[.val (.int p0), .val (.int p1), .val (.int p2), .val (.int p3), .val (.int p4), .val (.int (2 : Int32)), .val (.int i1), .val (.int i2), .val (.int i3), .val (.int i4), .val (.ref b1), .val (.ref b2_2), .val (.int (1 : Int32))] [(.ref b2_2)])) _
    refine XS.astore X71.here hx rfl (hb hby at_168) rfl rfl (l' := #[.val (.int p0), .val (.int p1), .val (.int p2), .val (.int p3), .val (.int p4), .val (.int (2 : Int32)), .val (.int i1), .val (.int i2), .val (.int i3), .val (.int i4), .val (.ref b1), .val (.ref b2_2), .val (.int (1 : Int32))]) rfl ?_
    refine XS.iload X71.here hx rfl (hb hby at_170) rfl ?_
    show Steps p.tables e below (T71.setTop (mkF m 172 #[.val (.int p0), .val (.int p1), .val (.int p2), .val (.int p3), .val (.int p4), .val (.int (2 : Int32)), .val (.int i1), .val (.int i2), .val (.int i3), .val (.int i4), .val (.ref b1), .val (.ref b2_2), .val (.int (1 : Int32))] [(.int (1 : Int32))])) _
    refine XS.ifNo X71.here hx rfl (hb hby at_172) rfl ((if0 _ _).trans (feq (by decide : ¬ ((1 : Int32) = (0 : Int32)))).1) ?_
    refine XS.aload X71.here hx rfl (hb hby at_175) rfl rfl ?_
    refine st72.trans ?_
    show Steps p.tables e below (T72.setTop (mkF m 180 #[.val (.int p0), .val (.int p1), .val (.int p2), .val (.int p3), .val (.int p4), .val (.int (2 : Int32)), .val (.int i1), .val (.int i2), .val (.int i3), .val (.int i4), .val (.ref b1), .val (.ref b2_2), .val (.int (1 : Int32))] [(.int (1 : Int32))])) _
    refine XS.iconst X72.here hx rfl (hb hby at_180) ?_
    refine XS.icmpNo X72.here hx rfl (hb hby at_181) rfl (teq (by decide : (1 : Int32) = (1 : Int32))).2 ?_
    refine XS.aload X72.here hx rfl (hb hby at_184) rfl rfl ?_
    show Steps p.tables e below (T72.setTop (mkF m 186 #[.val (.int p0), .val (.int p1), .val (.int p2), .val (.int p3), .val (.int p4), .val (.int (2 : Int32)), .val (.int i1), .val (.int i2), .val (.int i3), .val (.int i4), .val (.ref b1), .val (.ref b2_2), .val (.int (1 : Int32))] [(.ref b1)])) _
    refine st73.trans ?_
    show Steps p.tables e below (T73.setTop (mkF m 189 #[.val (.int p0), .val (.int p1), .val (.int p2), .val (.int p3), .val (.int p4), .val (.int (2 : Int32)), .val (.int i1), .val (.int i2), .val (.int i3), .val (.int i4), .val (.ref b1), .val (.ref b2_2), .val (.int (1 : Int32))] [(.ref b30_2)])) _
    refine XS.iconst X73.here hx rfl (hb hby at_189) ?_
    refine X73.iaload hx (j := (0 : Int32)) (v := (.int i4)) (by rw [e73]; exact Arq74.1) (State.isArrayOf_alike hZ.alike Arq74.2.1) Arq74.2.2 (inb_of Sq74 ⟨by decide, by decide⟩) (Has.at Hq74 (inb_of Sq74 ⟨by decide, by decide⟩) rfl) (g := (mkF m 190 #[.val (.int p0), .val (.int p1), .val (.int p2), .val (.int p3), .val (.int p4), .val (.int (2 : Int32)), .val (.int i1), .val (.int i2), .val (.int i3), .val (.int i4), .val (.ref b1), .val (.ref b2_2), .val (.int (1 : Int32))] [(.int (0 : Int32)), (.ref b30_2)])) rfl rfl (hb hby at_190) _ ?_
    show Steps p.tables e below (T73.setTop (mkF m 191 #[.val (.int p0), .val (.int p1), .val (.int p2), .val (.int p3), .val (.int p4), .val (.int (2 : Int32)), .val (.int i1), .val (.int i2), .val (.int i3), .val (.int i4), .val (.ref b1), .val (.ref b2_2), .val (.int (1 : Int32))] [(.int i4)])) _
    refine XS.iload X73.here hx rfl (hb hby at_191) rfl ?_
    refine XS.icmpNo X73.here hx rfl (hb hby at_193) rfl (teq (rfl : i4 = i4)).2 ?_
    refine XS.aload X73.here hx rfl (hb hby at_196) rfl rfl ?_
    show Steps p.tables e below (T73.setTop (mkF m 198 #[.val (.int p0), .val (.int p1), .val (.int p2), .val (.int p3), .val (.int p4), .val (.int (2 : Int32)), .val (.int i1), .val (.int i2), .val (.int i3), .val (.int i4), .val (.ref b1), .val (.ref b2_2), .val (.int (1 : Int32))] [(.ref b2_2)])) _
    refine XS.iload X73.here hx rfl (hb hby at_198) rfl ?_
    refine X73.daload hx (j := i4) (v := (.double y9)) (by rw [e73]; exact Arq75.1) (State.isArrayOf_alike hZ.alike Arq75.2.1) Arq75.2.2 (inb_of Sq75 hix4) (Has.at Hq75 (inb_of Sq75 hix4) hr200) (g := (mkF m 200 #[.val (.int p0), .val (.int p1), .val (.int p2), .val (.int p3), .val (.int p4), .val (.int (2 : Int32)), .val (.int i1), .val (.int i2), .val (.int i3), .val (.int i4), .val (.ref b1), .val (.ref b2_2), .val (.int (1 : Int32))] [(.int i4), (.ref b2_2)])) rfl rfl (hb hby at_200) _ ?_
    show Steps p.tables e below (T73.setTop (mkF m 201 #[.val (.int p0), .val (.int p1), .val (.int p2), .val (.int p3), .val (.int p4), .val (.int (2 : Int32)), .val (.int i1), .val (.int i2), .val (.int i3), .val (.int i4), .val (.ref b1), .val (.ref b2_2), .val (.int (1 : Int32))] [(.double y9)])) _
    refine XS.iload X73.here hx rfl (hb hby at_201) rfl ?_
    refine XS.i2dS X73.here hx rfl (hb hby at_203) rfl (v := (FP.i2d p4)) rfl ?_
    refine XS.dcmpS X73.here hx rfl (hb hby at_204) rfl (v := (0 : Int32)) hd204 ?_
    refine XS.ifNo X73.here hx rfl (hb hby at_205) rfl ((if0 _ _).trans (teq (by decide : (0 : Int32) = (0 : Int32))).2) ?_
    show Steps p.tables e below (T73.setTop (mkF m 208 #[.val (.int p0), .val (.int p1), .val (.int p2), .val (.int p3), .val (.int p4), .val (.int (2 : Int32)), .val (.int i1), .val (.int i2), .val (.int i3), .val (.int i4), .val (.ref b1), .val (.ref b2_2), .val (.int (1 : Int32))] [])) _
    refine XS.iconst X73.here hx rfl (hb hby at_208) ?_
    refine XS.goto X73.here hx rfl (pc0 := 209) (pc' := 213) rfl (hb hby at_209) (by decide) (by decide) ?_
    refine XS.istore X73.here hx rfl (hb hby at_213) rfl (l' := #[.val (.int p0), .val (.int p1), .val (.int p2), .val (.int p3), .val (.int p4), .val (.int (2 : Int32)), .val (.int i1), .val (.int i2), .val (.int i3), .val (.int i4), .val (.ref b1), .val (.ref b2_2), .val (.int (1 : Int32))]) rfl ?_
    refine XS.iload X73.here hx rfl (hb hby at_215) rfl ?_
    refine XS.ifNo X73.here hx rfl (hb hby at_217) rfl ((if0 _ _).trans (feq (by decide : ¬ ((1 : Int32) = (0 : Int32)))).1) ?_
    refine XS.aload X73.here hx rfl (hb hby at_220) rfl rfl ?_
    show Steps p.tables e below (T73.setTop (mkF m 222 #[.val (.int p0), .val (.int p1), .val (.int p2), .val (.int p3), .val (.int p4), .val (.int (2 : Int32)), .val (.int i1), .val (.int i2), .val (.int i3), .val (.int i4), .val (.ref b1), .val (.ref b2_2), .val (.int (1 : Int32))] [(.ref b2_2)])) _
    refine XS.iconst X73.here hx rfl (hb hby at_222) ?_
    refine XS.iload X73.here hx rfl (hb hby at_223) rfl ?_
    refine st76 _ ?_
    show Steps p.tables e below (T76.setTop (mkF m 228 #[.val (.int p0), .val (.int p1), .val (.int p2), .val (.int p3), .val (.int p4), .val (.int (2 : Int32)), .val (.int i1), .val (.int i2), .val (.int i3), .val (.int i4), .val (.ref b1), .val (.ref b2_2), .val (.int (1 : Int32))] [(.int (1 : Int32))])) _
    refine XS.ifNo X76.here hx rfl (hb hby at_228) rfl ((if0 _ _).trans (feq (by decide : ¬ ((1 : Int32) = (0 : Int32)))).1) ?_
    refine XS.aload X76.here hx rfl (hb hby at_231) rfl rfl ?_
    refine XS.iconst X76.here hx rfl (hb hby at_233) ?_
    show Steps p.tables e below (T76.setTop (mkF m 234 #[.val (.int p0), .val (.int p1), .val (.int p2), .val (.int p3), .val (.int p4), .val (.int (2 : Int32)), .val (.int i1), .val (.int i2), .val (.int i3), .val (.int i4), .val (.ref b1), .val (.ref b2_2), .val (.int (1 : Int32))] [(.int (1 : Int32)), (.ref b2_2)])) _
    refine XS.iload X76.here hx rfl (hb hby at_234) rfl ?_
    refine st77 _ ?_
    show Steps p.tables e below (T77.setTop (mkF m 239 #[.val (.int p0), .val (.int p1), .val (.int p2), .val (.int p3), .val (.int p4), .val (.int (2 : Int32)), .val (.int i1), .val (.int i2), .val (.int i3), .val (.int i4), .val (.ref b1), .val (.ref b2_2), .val (.int (1 : Int32))] [(.int (1 : Int32))])) _
    refine XS.ifNo X77.here hx rfl (hb hby at_239) rfl ((if0 _ _).trans (feq (by decide : ¬ ((1 : Int32) = (0 : Int32)))).1) ?_
    refine XS.aload X77.here hx rfl (hb hby at_242) rfl rfl ?_
    refine XS.iconst X77.here hx rfl (hb hby at_244) ?_
    refine XS.iload X77.here hx rfl (hb hby at_245) rfl ?_
    show Steps p.tables e below (T77.setTop (mkF m 247 #[.val (.int p0), .val (.int p1), .val (.int p2), .val (.int p3), .val (.int p4), .val (.int (2 : Int32)), .val (.int i1), .val (.int i2), .val (.int i3), .val (.int i4), .val (.ref b1), .val (.ref b2_2), .val (.int (1 : Int32))] [(.int i4), (.int (2 : Int32)), (.ref b2_2)])) _
    refine st78 _ ?_
    show Steps p.tables e below (T78.setTop (mkF m 250 #[.val (.int p0), .val (.int p1), .val (.int p2), .val (.int p3), .val (.int p4), .val (.int (2 : Int32)), .val (.int i1), .val (.int i2), .val (.int i3), .val (.int i4), .val (.ref b1), .val (.ref b2_2), .val (.int (1 : Int32))] [(.int (1 : Int32))])) _
    refine XS.ifNo X78.here hx rfl (hb hby at_250) rfl ((if0 _ _).trans (feq (by decide : ¬ ((1 : Int32) = (0 : Int32)))).1) ?_
    refine XS.aload X78.here hx rfl (hb hby at_253) rfl rfl ?_
    refine XS.iconst X78.here hx rfl (hb hby at_255) ?_
    refine XS.iload X78.here hx rfl (hb hby at_256) rfl ?_
    refine st79 _ ?_
    show Steps p.tables e below (T79.setTop (mkF m 261 #[.val (.int p0), .val (.int p1), .val (.int p2), .val (.int p3), .val (.int p4), .val (.int (2 : Int32)), .val (.int i1), .val (.int i2), .val (.int i3), .val (.int i4), .val (.ref b1), .val (.ref b2_2), .val (.int (1 : Int32))] [(.int (1 : Int32))])) _
    refine XS.ifNo X79.here hx rfl (hb hby at_261) rfl ((if0 _ _).trans (feq (by decide : ¬ ((1 : Int32) = (0 : Int32)))).1) ?_
    refine XS.iconst X79.here hx rfl (hb hby at_264) ?_
    refine XS.goto X79.here hx rfl (pc0 := 265) (pc' := 269) rfl (hb hby at_265) (by decide) (by decide) ?_
    refine XS.istore X79.here hx rfl (hb hby at_269) rfl (l' := #[.val (.int p0), .val (.int p1), .val (.int p2), .val (.int p3), .val (.int p4), .val (.int (2 : Int32)), .val (.int i1), .val (.int i2), .val (.int i3), .val (.int i4), .val (.ref b1), .val (.ref b2_2), .val (.int (1 : Int32))]) rfl ?_
    refine XS.iload X79.here hx rfl (hb hby at_271) rfl ?_
    exact retN X79 hx (t := .boolean) Bd.returns (by simp) (hb hby at_273) hr
  · show Q0 n0 _ T79.heap _
    rw [e79]
    exact ⟨rfl, N79⟩
set_option maxRecDepth 65536 in
set_option maxHeartbeats 40000000 in
theorem rm2D (l : Launch) (Z : State) (a0 : Array Value) (hw : ∀ d ∈ tables_1, d.before a0 Z = true) (ws : List Jvm.Cond) (p0 : Int32) (p1 : Int32) (p2 : Int32) (p3 : Int32) (p4 : Int32) (i4 : Int32) (U1 : List Value) (x1 : UInt64) (y1 : UInt64) (M1 : List Value) (U2 : List Value) (x2 : UInt64) (y2 : UInt64) (M2 : List Value) (U9 : List Value) (M9 : List Value) (y9 : UInt64) (i1 : Int32) (i2 : Int32) (i3 : Int32) (h0 : Heap) (n0 : Nat) (Z0 : n0 ≤ h0.size) (hix4 : ¬ i4 < 0 ∧ i4 < (4 : Int32)) (hr200 : U9.getD i4.toNatClampNeg (.double (0 : UInt64)) = .double y9) (hv2 : (p0 &&& (3 : Int32)) = (2 : Int32)) (hv9 : (((p0.toUInt32 >>> ((2 : Int32) &&& 31).toUInt32).toInt32) &&& (3 : Int32)) = i1) (hv16 : (((p0.toUInt32 >>> ((4 : Int32) &&& 31).toUInt32).toInt32) &&& (3 : Int32)) = i2) (hv24 : (((p0.toUInt32 >>> ((6 : Int32) &&& 31).toUInt32).toInt32) &&& (3 : Int32)) = i3) (hv32 : (((p0.toUInt32 >>> ((8 : Int32) &&& 31).toUInt32).toInt32) &&& (3 : Int32)) = i4) (hix_57 : ¬ i1 < 0 ∧ i1 < (4 : Int32)) (hrl_57 : ([(.int (0 : Int32)), (.int (0 : Int32)), (.int (0 : Int32)), (.int (0 : Int32))] : List Value).getD i1.toNatClampNeg (.int (0 : Int32)) = .int (0 : Int32)) (hrv_57 : ([(.double (0 : UInt64)), (.double (0 : UInt64)), (.double (0 : UInt64)), (.double (0 : UInt64))] : List Value).getD i1.toNatClampNeg (.double (0 : UInt64)) = .double x1) (hvl_57 : i1.toNatClampNeg < ([(.double (0 : UInt64)), (.double (0 : UInt64)), (.double (0 : UInt64)), (.double (0 : UInt64))] : List Value).length) (hll_57 : i1.toNatClampNeg < ([(.int (0 : Int32)), (.int (0 : Int32)), (.int (0 : Int32)), (.int (0 : Int32))] : List Value).length) (hls_57 : (([(.int (0 : Int32)), (.int (0 : Int32)), (.int (0 : Int32)), (.int (0 : Int32))] : List Value).set i1.toNatClampNeg (.int (1 : Int32))) = M1) (hvs_57 : (([(.double (0 : UInt64)), (.double (0 : UInt64)), (.double (0 : UInt64)), (.double (0 : UInt64))] : List Value).set i1.toNatClampNeg (.double y1)) = U1) (nn41_57 : Jvm.Free.Fl.NoNaN64 (FP.dadd x1 (FP.i2d p1))) (hq41_57 : (FP.dadd x1 (FP.i2d p1)) = y1) (hix_72 : ¬ i2 < 0 ∧ i2 < (4 : Int32)) (hrl_72 : M1.getD i2.toNatClampNeg (.int (0 : Int32)) = .int (0 : Int32)) (hrv_72 : U1.getD i2.toNatClampNeg (.double (0 : UInt64)) = .double x2) (hvl_72 : i2.toNatClampNeg < U1.length) (hll_72 : i2.toNatClampNeg < M1.length) (hls_72 : (M1.set i2.toNatClampNeg (.int (1 : Int32))) = M2) (hvs_72 : (U1.set i2.toNatClampNeg (.double y2)) = U2) (nn41_72 : Jvm.Free.Fl.NoNaN64 (FP.dadd x2 (FP.i2d p2))) (hq41_72 : (FP.dadd x2 (FP.i2d p2)) = y2) (hx0_92 : ¬ i1 < 0 ∧ i1 < (4 : Int32)) (hv0_92 : i1.toNatClampNeg < U2.length) (hl0_92 : i1.toNatClampNeg < M2.length) (hx1_92 : ¬ i2 < 0 ∧ i2 < (4 : Int32)) (hv1_92 : i2.toNatClampNeg < U2.length) (hl1_92 : i2.toNatClampNeg < M2.length) (hvs_92 : ((U2.set i1.toNatClampNeg (.double (0 : UInt64))).set i2.toNatClampNeg (.double (0 : UInt64))) = ([(.double (0 : UInt64)), (.double (0 : UInt64)), (.double (0 : UInt64)), (.double (0 : UInt64))] : List Value)) (hls_92 : ((M2.set i1.toNatClampNeg (.int (0 : Int32))).set i2.toNatClampNeg (.int (0 : Int32))) = ([(.int (0 : Int32)), (.int (0 : Int32)), (.int (0 : Int32)), (.int (0 : Int32))] : List Value)) (hd115 : (cmpValue (FP.dcmp (0 : UInt64) (0 : UInt64)) .l) = (0 : Int32)) (hd124 : (cmpValue (FP.dcmp (0 : UInt64) (0 : UInt64)) .l) = (0 : Int32)) (hd133 : (cmpValue (FP.dcmp (0 : UInt64) (0 : UInt64)) .l) = (0 : Int32)) (hd142 : (cmpValue (FP.dcmp (0 : UInt64) (0 : UInt64)) .l) = (0 : Int32)) (hix_160 : ¬ i4 < 0 ∧ i4 < (4 : Int32)) (hrl_160 : ([(.int (0 : Int32)), (.int (0 : Int32)), (.int (0 : Int32)), (.int (0 : Int32))] : List Value).getD i4.toNatClampNeg (.int (0 : Int32)) = .int (0 : Int32)) (hrv_160 : ([(.double (0 : UInt64)), (.double (0 : UInt64)), (.double (0 : UInt64)), (.double (0 : UInt64))] : List Value).getD i4.toNatClampNeg (.double (0 : UInt64)) = .double (0 : UInt64)) (hvl_160 : i4.toNatClampNeg < ([(.double (0 : UInt64)), (.double (0 : UInt64)), (.double (0 : UInt64)), (.double (0 : UInt64))] : List Value).length) (hll_160 : i4.toNatClampNeg < ([(.int (0 : Int32)), (.int (0 : Int32)), (.int (0 : Int32)), (.int (0 : Int32))] : List Value).length) (hls_160 : (([(.int (0 : Int32)), (.int (0 : Int32)), (.int (0 : Int32)), (.int (0 : Int32))] : List Value).set i4.toNatClampNeg (.int (1 : Int32))) = M9) (hvs_160 : (([(.double (0 : UInt64)), (.double (0 : UInt64)), (.double (0 : UInt64)), (.double (0 : UInt64))] : List Value).set i4.toNatClampNeg (.double y9)) = U9) (nn41_160 : Jvm.Free.Fl.NoNaN64 (FP.dadd (0 : UInt64) (FP.i2d p4))) (hq41_160 : (FP.dadd (0 : UInt64) (FP.i2d p4)) = y9) (hd204 : (cmpValue (FP.dcmp y9 (FP.i2d p4)) .l) = (0 : Int32)) (hix_225 : ¬ (0 : Int32) < 0 ∧ (0 : Int32) < (4 : Int32)) (hrd_225 : ¬ ((0 : Int32) = i4) → U9.getD (0 : Int32).toNatClampNeg (.double (0 : UInt64)) = .double (0 : UInt64)) (hd9_225 : (cmpValue (FP.dcmp (0 : UInt64) (0 : UInt64)) .l) = (0 : Int32)) (hix_236 : ¬ (1 : Int32) < 0 ∧ (1 : Int32) < (4 : Int32)) (hrd_236 : ¬ ((1 : Int32) = i4) → U9.getD (1 : Int32).toNatClampNeg (.double (0 : UInt64)) = .double (0 : UInt64)) (hd9_236 : (cmpValue (FP.dcmp (0 : UInt64) (0 : UInt64)) .l) = (0 : Int32)) (hix_247 : ¬ (2 : Int32) < 0 ∧ (2 : Int32) < (4 : Int32)) (hrd_247 : ¬ ((2 : Int32) = i4) → U9.getD (2 : Int32).toNatClampNeg (.double (0 : UInt64)) = .double (0 : UInt64)) (hd9_247 : (cmpValue (FP.dcmp (0 : UInt64) (0 : UInt64)) .l) = (0 : Int32)) (hix_258 : ¬ (3 : Int32) < 0 ∧ (3 : Int32) < (4 : Int32)) (hrd_258 : ¬ ((3 : Int32) = i4) → U9.getD (3 : Int32).toNatClampNeg (.double (0 : UInt64)) = .double (0 : UInt64)) (hd9_258 : (cmpValue (FP.dcmp (0 : UInt64) (0 : UInt64)) .l) = (0 : Int32)) :
    MetFree l x (head1 (Jvm.Cond.code x code maxLocals ret :: ws) room_1) (fun a U => a = #[(.int p0), (.int p1), (.int p2), (.int p3), (.int p4)] ∧ Z.Warmed39 U.vm ∧ U.heap = h0) (fun _ _ _ _ _ => True) (fun _ U o U' => ∃ v L, o = .returned v ∧ Q0 n0 v U'.heap L ∧ FrameEnd U o U' L room_1.cells room_1.slots) := by
  refine MetFree.of_bodySF (plainFor_of_name pn_com_example_leeway_leeway_lp_SparseColumnClearPinLaw) hisR ?_
  intro p e s m args below meth c s₁ Bd hml0 hP hK
  obtain ⟨rfl, hZ, hh⟩ := hP
  have hx := Bd.exec
  have hby := Bd.bytes
  have hml : c.maxLocals = 13 := hml0
  have hown : s.vm.findClass "com/example/leeway/leeway/lp/SparseColumnClearPinLaw" = some m.cls := findClass_of_methodNamed Bd.named
  have hnm := (name_of_methodNamed Bd.named Bd.method).1
  have X0 : Stand p l e room_1 s m #[(.int p0), (.int p1), (.int p2), (.int p3), (.int p4)] below meth c s₁ [] 0 0 := Stand.of_body Bd
  have e0 : s₁.heap = h0 := by rw [← hh, Bd.state]; rfl
  have N0 := Fr.nil n0
  have pre0 : ∀ t, Steps p.tables e below (s₁.setTop (mkF m 0 #[.val (.int p0), .val (.int p1), .val (.int p2), .val (.int p3), .val (.int p4), .unset, .unset, .unset, .unset, .unset, .unset, .unset, .unset] [])) t → Steps p.tables e below (s₁.setTop (entryFrame m #[(.int p0), (.int p1), (.int p2), (.int p3), (.int p4)] maxLocals)) t := fun t k => castTop (ef_0_IIIII m p0 p1 p2 p3 p4) k
  obtain ⟨T1, h1, X1, e1, E1, A1, D1, -, st1⟩ := newO X0 hx hZ hown (hw _ (List.mem_of_getElem? (i := 0) rfl)) (hw _ (List.mem_of_getElem? (i := 1) rfl)) (hw _ (List.mem_of_getElem? (i := 2) rfl)) e0 (g := (mkF m 35 #[.val (.int p0), .val (.int p1), .val (.int p2), .val (.int p3), .val (.int p4), .val (.int (2 : Int32)), .val (.int i1), .val (.int i2), .val (.int i3), .val (.int i4), .unset, .unset, .unset] [])) rfl (hb hby at_35) (by decide) (by decide)
  obtain ⟨b1, g1⟩ : ∃ z, z = h0.size := ⟨_, rfl⟩
  rw [← g1] at A1 D1 st1
  have g_b1 : n0 ≤ b1 := Nat.le_trans Z0 (Nat.le_of_eq g1.symm)
  have sz_b1 : h0.size ≤ b1 := Nat.le_trans (Keep.refl h0 []).1 (Nat.le_of_eq g1.symm)
  have K1 : Keep h0 h1 [] := (Keep.refl h0 []).ext E1
  have Zs1 := Nat.le_trans Z0 E1.1
  have F1_values : Fld Z h1 b1 "com/example/leeway/leeway/lp/SparseColumn" "values" "[D" .null := D1 (Or.inr (hw _ (List.mem_of_getElem? (i := 11) rfl))) (ty := (.array .double)) (by decide)
  have F1_listed : Fld Z h1 b1 "com/example/leeway/leeway/lp/SparseColumn" "listed" "[Z" .null := D1 (Or.inr (hw _ (List.mem_of_getElem? (i := 14) rfl))) (ty := (.array .boolean)) (by decide)
  have F1_rows : Fld Z h1 b1 "com/example/leeway/leeway/lp/SparseColumn" "rows" "[I" .null := D1 (Or.inr (hw _ (List.mem_of_getElem? (i := 17) rfl))) (ty := (.array .int)) (by decide)
  have F1_count : Fld Z h1 b1 "com/example/leeway/leeway/lp/SparseColumn" "count" "I" (.int (0 : Int32)) := D1 (Or.inl (hw _ (List.mem_of_getElem? (i := 24) rfl))) (ty := .int) (by decide)
  obtain ⟨_, _, ⟨T2, L2, k2, n2⟩, -, X2, ⟨Lc2, hQ2, l2, y2, z2⟩, st2⟩ := X1.specialBack hx (y := (⟨"com/example/leeway/leeway/lp/SparseColumn", "<init>", "(I)V"⟩ : MethodName)) rfl hown (mvT hZ (hw _ (List.mem_of_getElem? (i := 3) rfl))) (mvT hZ (hw _ (List.mem_of_getElem? (i := 4) rfl))) (mvT hZ (hw _ (List.mem_of_getElem? (i := 5) rfl))) (by decide) (backOf (W := 1) (sci l Z a0 hw [] b1 h1 n0 Zs1 g_b1 A1 F1_values F1_listed F1_rows F1_count) hZ (hw _ (List.mem_of_getElem? (i := 5) rfl)) (hw _ (List.mem_of_getElem? (i := 2) rfl)) (by decide) (by decide)) (g := (mkF m 40 #[.val (.int p0), .val (.int p1), .val (.int p2), .val (.int p3), .val (.int p4), .val (.int (2 : Int32)), .val (.int i1), .val (.int i2), .val (.int i3), .val (.int i4), .unset, .unset, .unset] [(.int (4 : Int32)), (.ref b1), (.ref b1)])) rfl (by rw [hml]; rfl) (Steps.refl _) (a := b1) (argsL := [(.int (4 : Int32))]) (rest := [(.ref b1)]) (lenOf pd_0 rfl) rfl (by show 2 * 0 + _ ≤ _; exact Nat.le_of_eq rfl) (hb hby at_40) (fun _ _ => ⟨rfl, e1, (by decide : 1 + 3 ≤ _), (by decide : 4 + 12 ≤ _)⟩)
  dsimp only [Pt.U, Pt.locs, Pt.cells, Pt.slots] at X2 l2 y2 z2 st2 hQ2
  subst l2 y2 z2
  obtain ⟨b2_2, b15_2, b30_2, k2_2, k15_2, k30_2, rfl, N2q, K2q, r3, r4, r5, r6, r7, r8, f9, f10, f11, f12, f13, f14, f15, f16⟩ := hQ2
  have N2 := Fr.app N0 N2q
  have ne_b1_b2_2 : b1 ≠ b2_2 := Nat.ne_of_lt (Nat.lt_of_lt_of_le A1.lt r3)
  have g_b2_2 : n0 ≤ b2_2 := Nat.le_trans Zs1 r3
  have sz_b2_2 : h0.size ≤ b2_2 := Nat.le_trans K1.1 r3
  have ne_b1_b15_2 : b1 ≠ b15_2 := Nat.ne_of_lt (Nat.lt_of_lt_of_le A1.lt r4)
  have g_b15_2 : n0 ≤ b15_2 := Nat.le_trans Zs1 r4
  have sz_b15_2 : h0.size ≤ b15_2 := Nat.le_trans K1.1 r4
  have ne_b1_b30_2 : b1 ≠ b30_2 := Nat.ne_of_lt (Nat.lt_of_lt_of_le A1.lt r5)
  have g_b30_2 : n0 ≤ b30_2 := Nat.le_trans Zs1 r5
  have sz_b30_2 : h0.size ≤ b30_2 := Nat.le_trans K1.1 r5
  have f17 := A1.keep K2q
  have K2 : Keep h0 T2.heap [] := K1.trans K2q (own_allS (Or.inr sz_b1) own_all0)
  have Zs2 := Nat.le_trans Zs1 K2q.1
  obtain ⟨cq18, kq18, q18a, q18b, q18c⟩ := isOf hZ rfl f9
  obtain ⟨_, _, ⟨T18, L18, k18, n18⟩, -, X18, ⟨Lc18, hQ18, l18, y18, z18⟩, st18⟩ := X2.virtualBack hx (y := (⟨"com/example/leeway/leeway/lp/SparseColumn", "add", "(ID)V"⟩ : MethodName)) (z := (⟨"com/example/leeway/leeway/lp/SparseColumn", "add", "(ID)V"⟩ : MethodName)) hown (mvT hZ (hw _ (List.mem_of_getElem? (i := 35) rfl))) (mvT hZ (hw _ (List.mem_of_getElem? (i := 36) rfl))) (notFace_of_selects (args := #[]) (mvT hZ (hw _ (List.mem_of_getElem? (i := 38) rfl)))) (mvT hZ (hw _ (List.mem_of_getElem? (i := 38) rfl))) (mvT hZ (hw _ (List.mem_of_getElem? (i := 37) rfl))) (by decide) (backOf (W := 0) (addN0 l Z a0 hw [] b1 b2_2 b15_2 b30_2 k2_2 k15_2 k30_2 (0 : Int32) (0 : Int32) (0 : Int32) (0 : Int32) ([(.double (0 : UInt64)), (.double (0 : UInt64)), (.double (0 : UInt64)), (.double (0 : UInt64))] : List Value) ([(.int (0 : Int32)), (.int (0 : Int32)), (.int (0 : Int32)), (.int (0 : Int32))] : List Value) U1 M1 i1 (FP.i2d p1) x1 y1 T2.heap n0 Zs2 f10 f11 f12 f13 f9 f14 f15 f16 g_b1 g_b2_2 g_b15_2 g_b30_2 ne_b1_b2_2 ne_b1_b15_2 ne_b1_b30_2 r6 r7 r8 hix_57 hrl_57 hrv_57 hvl_57 hll_57 hls_57 hvs_57 nn41_57 hq41_57) hZ (hw _ (List.mem_of_getElem? (i := 39) rfl)) (hw _ (List.mem_of_getElem? (i := 2) rfl)) (by decide) (by decide)) q18a q18c (g := (mkF m 57 #[.val (.int p0), .val (.int p1), .val (.int p2), .val (.int p3), .val (.int p4), .val (.int (2 : Int32)), .val (.int i1), .val (.int i2), .val (.int i3), .val (.int i4), .val (.ref b1), .unset, .unset] [(.double (FP.i2d p1)), (.int i1), (.ref b1)])) rfl (by rw [hml]; rfl) (Steps.refl _) (argsL := [(.int i1), (.double (FP.i2d p1))]) (rest := []) (lenOf pd_4 rfl) rfl (by show 2 * 0 + _ ≤ _; exact Nat.le_of_eq rfl) (hb hby at_57) (fun _ _ => ⟨rfl, rfl, (by decide : 4 + 0 ≤ _), (by decide : 16 + 0 ≤ _)⟩)
  dsimp only [Pt.U, Pt.locs, Pt.cells, Pt.slots] at X18 l18 y18 z18 st18 hQ18
  subst l18 y18 z18
  obtain ⟨rfl, N18q, K18q, f19, f20, f21, f22, f23, f24, f25, f26⟩ := hQ18
  have N18 := Fr.app N2 N18q
  have f27 := f9.keep K18q
  have K18 : Keep h0 T18.heap [] := K2.trans K18q (own_allS (Or.inr sz_b15_2) (own_allS (Or.inr sz_b1) (own_allS (Or.inr sz_b30_2) (own_allS (Or.inr sz_b2_2) own_all0))))
  have Zs18 := Nat.le_trans Zs2 K18q.1
  obtain ⟨cq28, kq28, q28a, q28b, q28c⟩ := isOf hZ rfl f19
  obtain ⟨_, _, ⟨T28, L28, k28, n28⟩, -, X28, ⟨Lc28, hQ28, l28, y28, z28⟩, st28⟩ := X18.virtualBack hx (y := (⟨"com/example/leeway/leeway/lp/SparseColumn", "add", "(ID)V"⟩ : MethodName)) (z := (⟨"com/example/leeway/leeway/lp/SparseColumn", "add", "(ID)V"⟩ : MethodName)) hown (mvT hZ (hw _ (List.mem_of_getElem? (i := 35) rfl))) (mvT hZ (hw _ (List.mem_of_getElem? (i := 36) rfl))) (notFace_of_selects (args := #[]) (mvT hZ (hw _ (List.mem_of_getElem? (i := 38) rfl)))) (mvT hZ (hw _ (List.mem_of_getElem? (i := 38) rfl))) (mvT hZ (hw _ (List.mem_of_getElem? (i := 37) rfl))) (by decide) (backOf (W := 0) (addN1 l Z a0 hw [] b1 b2_2 b15_2 b30_2 k2_2 k15_2 k30_2 i1 (0 : Int32) (0 : Int32) (0 : Int32) U1 M1 U2 M2 i2 (FP.i2d p2) x2 y2 T18.heap n0 Zs18 f20 f21 f22 f23 f19 f24 f25 f26 g_b1 g_b2_2 g_b15_2 g_b30_2 ne_b1_b2_2 ne_b1_b15_2 ne_b1_b30_2 r6 r7 r8 hix_72 hrl_72 hrv_72 hvl_72 hll_72 hls_72 hvs_72 nn41_72 hq41_72) hZ (hw _ (List.mem_of_getElem? (i := 39) rfl)) (hw _ (List.mem_of_getElem? (i := 2) rfl)) (by decide) (by decide)) q28a q28c (g := (mkF m 72 #[.val (.int p0), .val (.int p1), .val (.int p2), .val (.int p3), .val (.int p4), .val (.int (2 : Int32)), .val (.int i1), .val (.int i2), .val (.int i3), .val (.int i4), .val (.ref b1), .unset, .unset] [(.double (FP.i2d p2)), (.int i2), (.ref b1)])) rfl (by rw [hml]; rfl) (Steps.refl _) (argsL := [(.int i2), (.double (FP.i2d p2))]) (rest := []) (lenOf pd_4 rfl) rfl (by show 2 * 0 + _ ≤ _; exact Nat.le_of_eq rfl) (hb hby at_72) (fun _ _ => ⟨rfl, rfl, (by decide : 4 + 0 ≤ _), (by decide : 16 + 0 ≤ _)⟩)
  dsimp only [Pt.U, Pt.locs, Pt.cells, Pt.slots] at X28 l28 y28 z28 st28 hQ28
  subst l28 y28 z28
  obtain ⟨rfl, N28q, K28q, f29, f30, f31, f32, f33, f34, f35, f36⟩ := hQ28
  have N28 := Fr.app N18 N28q
  have f37 := f19.keep K28q
  have K28 : Keep h0 T28.heap [] := K18.trans K28q (own_allS (Or.inr sz_b15_2) (own_allS (Or.inr sz_b1) (own_allS (Or.inr sz_b30_2) (own_allS (Or.inr sz_b2_2) own_all0))))
  have Zs28 := Nat.le_trans Zs18 K28q.1
  obtain ⟨cq38, kq38, q38a, q38b, q38c⟩ := isOf hZ rfl f29
  obtain ⟨_, _, ⟨T38, L38, k38, n38⟩, -, X38, ⟨Lc38, hQ38, l38, y38, z38⟩, st38⟩ := X28.virtualBack hx (y := (⟨"com/example/leeway/leeway/lp/SparseColumn", "clear", "()V"⟩ : MethodName)) (z := (⟨"com/example/leeway/leeway/lp/SparseColumn", "clear", "()V"⟩ : MethodName)) hown (mvT hZ (hw _ (List.mem_of_getElem? (i := 18) rfl))) (mvT hZ (hw _ (List.mem_of_getElem? (i := 19) rfl))) (notFace_of_selects (args := #[]) (mvT hZ (hw _ (List.mem_of_getElem? (i := 21) rfl)))) (mvT hZ (hw _ (List.mem_of_getElem? (i := 21) rfl))) (mvT hZ (hw _ (List.mem_of_getElem? (i := 20) rfl))) (by decide) (backOf (W := 0) (clr2 l Z a0 hw [] b1 b2_2 b15_2 b30_2 k2_2 k15_2 k30_2 i1 i2 (0 : Int32) (0 : Int32) U2 M2 ([(.double (0 : UInt64)), (.double (0 : UInt64)), (.double (0 : UInt64)), (.double (0 : UInt64))] : List Value) ([(.int (0 : Int32)), (.int (0 : Int32)), (.int (0 : Int32)), (.int (0 : Int32))] : List Value) T28.heap n0 Zs28 f30 f31 f32 f33 f29 f34 f35 f36 g_b1 g_b2_2 g_b15_2 g_b30_2 ne_b1_b2_2 ne_b1_b15_2 ne_b1_b30_2 r6 r7 r8 hx0_92 hv0_92 hl0_92 hx1_92 hv1_92 hl1_92 hvs_92 hls_92) hZ (hw _ (List.mem_of_getElem? (i := 22) rfl)) (hw _ (List.mem_of_getElem? (i := 2) rfl)) (by decide) (by decide)) q38a q38c (g := (mkF m 92 #[.val (.int p0), .val (.int p1), .val (.int p2), .val (.int p3), .val (.int p4), .val (.int (2 : Int32)), .val (.int i1), .val (.int i2), .val (.int i3), .val (.int i4), .val (.ref b1), .unset, .unset] [(.ref b1)])) rfl (by rw [hml]; rfl) (Steps.refl _) (argsL := []) (rest := []) (lenOf pd_1 rfl) rfl (by show 2 * 0 + _ ≤ _; exact Nat.le_of_eq rfl) (hb hby at_92) (fun _ _ => ⟨rfl, rfl, (by decide : 4 + 0 ≤ _), (by decide : 16 + 0 ≤ _)⟩)
  dsimp only [Pt.U, Pt.locs, Pt.cells, Pt.slots] at X38 l38 y38 z38 st38 hQ38
  subst l38 y38 z38
  obtain ⟨rfl, N38q, K38q, f39, f40, f41, f42, f43, f44, f45, f46⟩ := hQ38
  have N38 := Fr.app N28 N38q
  have f47 := f29.keep K38q
  have f48 := f36.keep K38q (own_niS (Ne.symm r7) (own_niS (Ne.symm r8) (own_niS (Ne.symm ne_b1_b30_2) own_ni0)))
  have K38 : Keep h0 T38.heap [] := K28.trans K38q (own_allS (Or.inr sz_b2_2) (own_allS (Or.inr sz_b15_2) (own_allS (Or.inr sz_b1) own_all0)))
  have Zs38 := Nat.le_trans Zs28 K38q.1
  obtain ⟨cq49, kq49, q49a, q49b, q49c⟩ := isOf hZ rfl f39
  obtain ⟨_, _, ⟨T49, L49, k49, n49⟩, -, X49, ⟨Lc49, hQ49, l49, y49, z49⟩, st49⟩ := X38.virtualBack hx (y := (⟨"com/example/leeway/leeway/lp/SparseColumn", "values", "()[D"⟩ : MethodName)) (z := (⟨"com/example/leeway/leeway/lp/SparseColumn", "values", "()[D"⟩ : MethodName)) hown (mvT hZ (hw _ (List.mem_of_getElem? (i := 25) rfl))) (mvT hZ (hw _ (List.mem_of_getElem? (i := 26) rfl))) (notFace_of_selects (args := #[]) (mvT hZ (hw _ (List.mem_of_getElem? (i := 28) rfl)))) (mvT hZ (hw _ (List.mem_of_getElem? (i := 28) rfl))) (mvT hZ (hw _ (List.mem_of_getElem? (i := 27) rfl))) (by decide) (backOf (W := 0) (gv l Z a0 hw [] b1 b2_2 b15_2 b30_2 k2_2 k15_2 k30_2 i1 i2 (0 : Int32) (0 : Int32) ([(.double (0 : UInt64)), (.double (0 : UInt64)), (.double (0 : UInt64)), (.double (0 : UInt64))] : List Value) ([(.int (0 : Int32)), (.int (0 : Int32)), (.int (0 : Int32)), (.int (0 : Int32))] : List Value) (0 : Int32) T38.heap n0 Zs38 f40 f41 f42 f43 f39 f44 f45 f46) hZ (hw _ (List.mem_of_getElem? (i := 29) rfl)) (hw _ (List.mem_of_getElem? (i := 2) rfl)) (by decide) (by decide)) q49a q49c (g := (mkF m 97 #[.val (.int p0), .val (.int p1), .val (.int p2), .val (.int p3), .val (.int p4), .val (.int (2 : Int32)), .val (.int i1), .val (.int i2), .val (.int i3), .val (.int i4), .val (.ref b1), .unset, .unset] [(.ref b1)])) rfl (by rw [hml]; rfl) (Steps.refl _) (argsL := []) (rest := []) (lenOf pd_2 rfl) rfl (by show 2 * 0 + _ ≤ _; exact Nat.le_of_eq rfl) (hb hby at_97) (fun _ _ => ⟨rfl, rfl, (by decide : 4 + 0 ≤ _), (by decide : 16 + 0 ≤ _)⟩)
  dsimp only [Pt.U, Pt.locs, Pt.cells, Pt.slots] at X49 l49 y49 z49 st49 hQ49
  subst l49 y49 z49
  obtain ⟨rfl, N49q, eh49⟩ := hQ49
  have N49 := Fr.app N38 N49q
  have e49 : T49.heap = T38.heap := eh49
  obtain ⟨cq50, kq50, q50a, q50b, q50c⟩ := isOf hZ e49 f39
  obtain ⟨_, _, ⟨T50, L50, k50, n50⟩, -, X50, ⟨Lc50, hQ50, l50, y50, z50⟩, st50⟩ := X49.virtualBack hx (y := (⟨"com/example/leeway/leeway/lp/SparseColumn", "count", "()I"⟩ : MethodName)) (z := (⟨"com/example/leeway/leeway/lp/SparseColumn", "count", "()I"⟩ : MethodName)) hown (mvT hZ (hw _ (List.mem_of_getElem? (i := 30) rfl))) (mvT hZ (hw _ (List.mem_of_getElem? (i := 31) rfl))) (notFace_of_selects (args := #[]) (mvT hZ (hw _ (List.mem_of_getElem? (i := 33) rfl)))) (mvT hZ (hw _ (List.mem_of_getElem? (i := 33) rfl))) (mvT hZ (hw _ (List.mem_of_getElem? (i := 32) rfl))) (by decide) (backOf (W := 0) (gc l Z a0 hw [] b1 b2_2 b15_2 b30_2 k2_2 k15_2 k30_2 i1 i2 (0 : Int32) (0 : Int32) ([(.double (0 : UInt64)), (.double (0 : UInt64)), (.double (0 : UInt64)), (.double (0 : UInt64))] : List Value) ([(.int (0 : Int32)), (.int (0 : Int32)), (.int (0 : Int32)), (.int (0 : Int32))] : List Value) (0 : Int32) T38.heap n0 Zs38 f40 f41 f42 f43 f39 f44 f45 f46) hZ (hw _ (List.mem_of_getElem? (i := 34) rfl)) (hw _ (List.mem_of_getElem? (i := 2) rfl)) (by decide) (by decide)) q50a q50c (g := (mkF m 104 #[.val (.int p0), .val (.int p1), .val (.int p2), .val (.int p3), .val (.int p4), .val (.int (2 : Int32)), .val (.int i1), .val (.int i2), .val (.int i3), .val (.int i4), .val (.ref b1), .val (.ref b2_2), .unset] [(.ref b1)])) rfl (by rw [hml]; rfl) (Steps.refl _) (argsL := []) (rest := []) (lenOf pd_3 rfl) rfl (by show 2 * 0 + _ ≤ _; exact Nat.le_of_eq rfl) (hb hby at_104) (fun _ _ => ⟨rfl, e49, (by decide : 4 + 0 ≤ _), (by decide : 16 + 0 ≤ _)⟩)
  dsimp only [Pt.U, Pt.locs, Pt.cells, Pt.slots] at X50 l50 y50 z50 st50 hQ50
  subst l50 y50 z50
  obtain ⟨rfl, N50q, eh50⟩ := hQ50
  have N50 := Fr.app N49 N50q
  have e50 : T50.heap = T38.heap := eh50
  obtain ⟨cq51, Arq51, -, Sq51, -, Hq51, -⟩ := id f44
  obtain ⟨cq52, Arq52, -, Sq52, -, Hq52, -⟩ := id f44
  obtain ⟨cq53, Arq53, -, Sq53, -, Hq53, -⟩ := id f44
  obtain ⟨cq54, Arq54, -, Sq54, -, Hq54, -⟩ := id f44
  obtain ⟨cq55, kq55, q55a, q55b, q55c⟩ := isOf hZ e50 f39
  obtain ⟨_, _, ⟨T55, L55, k55, n55⟩, -, X55, ⟨Lc55, hQ55, l55, y55, z55⟩, st55⟩ := X50.virtualBack hx (y := (⟨"com/example/leeway/leeway/lp/SparseColumn", "add", "(ID)V"⟩ : MethodName)) (z := (⟨"com/example/leeway/leeway/lp/SparseColumn", "add", "(ID)V"⟩ : MethodName)) hown (mvT hZ (hw _ (List.mem_of_getElem? (i := 35) rfl))) (mvT hZ (hw _ (List.mem_of_getElem? (i := 36) rfl))) (notFace_of_selects (args := #[]) (mvT hZ (hw _ (List.mem_of_getElem? (i := 38) rfl)))) (mvT hZ (hw _ (List.mem_of_getElem? (i := 38) rfl))) (mvT hZ (hw _ (List.mem_of_getElem? (i := 37) rfl))) (by decide) (backOf (W := 0) (addN0 l Z a0 hw [] b1 b2_2 b15_2 b30_2 k2_2 k15_2 k30_2 i1 i2 (0 : Int32) (0 : Int32) ([(.double (0 : UInt64)), (.double (0 : UInt64)), (.double (0 : UInt64)), (.double (0 : UInt64))] : List Value) ([(.int (0 : Int32)), (.int (0 : Int32)), (.int (0 : Int32)), (.int (0 : Int32))] : List Value) U9 M9 i4 (FP.i2d p4) (0 : UInt64) y9 T38.heap n0 Zs38 f40 f41 f42 f43 f39 f44 f45 f46 g_b1 g_b2_2 g_b15_2 g_b30_2 ne_b1_b2_2 ne_b1_b15_2 ne_b1_b30_2 r6 r7 r8 hix_160 hrl_160 hrv_160 hvl_160 hll_160 hls_160 hvs_160 nn41_160 hq41_160) hZ (hw _ (List.mem_of_getElem? (i := 39) rfl)) (hw _ (List.mem_of_getElem? (i := 2) rfl)) (by decide) (by decide)) q55a q55c (g := (mkF m 160 #[.val (.int p0), .val (.int p1), .val (.int p2), .val (.int p3), .val (.int p4), .val (.int (2 : Int32)), .val (.int i1), .val (.int i2), .val (.int i3), .val (.int i4), .val (.ref b1), .val (.ref b2_2), .val (.int (1 : Int32))] [(.double (FP.i2d p4)), (.int i4), (.ref b1)])) rfl (by rw [hml]; rfl) (Steps.refl _) (argsL := [(.int i4), (.double (FP.i2d p4))]) (rest := []) (lenOf pd_4 rfl) rfl (by show 2 * 0 + _ ≤ _; exact Nat.le_of_eq rfl) (hb hby at_160) (fun _ _ => ⟨rfl, e50, (by decide : 4 + 0 ≤ _), (by decide : 16 + 0 ≤ _)⟩)
  dsimp only [Pt.U, Pt.locs, Pt.cells, Pt.slots] at X55 l55 y55 z55 st55 hQ55
  subst l55 y55 z55
  obtain ⟨rfl, N55q, K55q, f56, f57, f58, f59, f60, f61, f62, f63⟩ := hQ55
  have N55 := Fr.app N50 N55q
  have f64 := f39.keep K55q
  have K55 : Keep h0 T55.heap [] := K38.trans K55q (own_allS (Or.inr sz_b15_2) (own_allS (Or.inr sz_b1) (own_allS (Or.inr sz_b30_2) (own_allS (Or.inr sz_b2_2) own_all0))))
  have Zs55 := Nat.le_trans Zs38 K55q.1
  obtain ⟨cq65, kq65, q65a, q65b, q65c⟩ := isOf hZ rfl f56
  obtain ⟨_, _, ⟨T65, L65, k65, n65⟩, -, X65, ⟨Lc65, hQ65, l65, y65, z65⟩, st65⟩ := X55.virtualBack hx (y := (⟨"com/example/leeway/leeway/lp/SparseColumn", "values", "()[D"⟩ : MethodName)) (z := (⟨"com/example/leeway/leeway/lp/SparseColumn", "values", "()[D"⟩ : MethodName)) hown (mvT hZ (hw _ (List.mem_of_getElem? (i := 25) rfl))) (mvT hZ (hw _ (List.mem_of_getElem? (i := 26) rfl))) (notFace_of_selects (args := #[]) (mvT hZ (hw _ (List.mem_of_getElem? (i := 28) rfl)))) (mvT hZ (hw _ (List.mem_of_getElem? (i := 28) rfl))) (mvT hZ (hw _ (List.mem_of_getElem? (i := 27) rfl))) (by decide) (backOf (W := 0) (gv l Z a0 hw [] b1 b2_2 b15_2 b30_2 k2_2 k15_2 k30_2 i4 i2 (0 : Int32) (0 : Int32) U9 M9 (1 : Int32) T55.heap n0 Zs55 f57 f58 f59 f60 f56 f61 f62 f63) hZ (hw _ (List.mem_of_getElem? (i := 29) rfl)) (hw _ (List.mem_of_getElem? (i := 2) rfl)) (by decide) (by decide)) q65a q65c (g := (mkF m 165 #[.val (.int p0), .val (.int p1), .val (.int p2), .val (.int p3), .val (.int p4), .val (.int (2 : Int32)), .val (.int i1), .val (.int i2), .val (.int i3), .val (.int i4), .val (.ref b1), .val (.ref b2_2), .val (.int (1 : Int32))] [(.ref b1)])) rfl (by rw [hml]; rfl) (Steps.refl _) (argsL := []) (rest := []) (lenOf pd_2 rfl) rfl (by show 2 * 0 + _ ≤ _; exact Nat.le_of_eq rfl) (hb hby at_165) (fun _ _ => ⟨rfl, rfl, (by decide : 4 + 0 ≤ _), (by decide : 16 + 0 ≤ _)⟩)
  dsimp only [Pt.U, Pt.locs, Pt.cells, Pt.slots] at X65 l65 y65 z65 st65 hQ65
  subst l65 y65 z65
  obtain ⟨rfl, N65q, eh65⟩ := hQ65
  have N65 := Fr.app N55 N65q
  have e65 : T65.heap = T55.heap := eh65
  obtain ⟨cq66, kq66, q66a, q66b, q66c⟩ := isOf hZ e65 f56
  obtain ⟨_, _, ⟨T66, L66, k66, n66⟩, -, X66, ⟨Lc66, hQ66, l66, y66, z66⟩, st66⟩ := X65.virtualBack hx (y := (⟨"com/example/leeway/leeway/lp/SparseColumn", "count", "()I"⟩ : MethodName)) (z := (⟨"com/example/leeway/leeway/lp/SparseColumn", "count", "()I"⟩ : MethodName)) hown (mvT hZ (hw _ (List.mem_of_getElem? (i := 30) rfl))) (mvT hZ (hw _ (List.mem_of_getElem? (i := 31) rfl))) (notFace_of_selects (args := #[]) (mvT hZ (hw _ (List.mem_of_getElem? (i := 33) rfl)))) (mvT hZ (hw _ (List.mem_of_getElem? (i := 33) rfl))) (mvT hZ (hw _ (List.mem_of_getElem? (i := 32) rfl))) (by decide) (backOf (W := 0) (gc l Z a0 hw [] b1 b2_2 b15_2 b30_2 k2_2 k15_2 k30_2 i4 i2 (0 : Int32) (0 : Int32) U9 M9 (1 : Int32) T55.heap n0 Zs55 f57 f58 f59 f60 f56 f61 f62 f63) hZ (hw _ (List.mem_of_getElem? (i := 34) rfl)) (hw _ (List.mem_of_getElem? (i := 2) rfl)) (by decide) (by decide)) q66a q66c (g := (mkF m 177 #[.val (.int p0), .val (.int p1), .val (.int p2), .val (.int p3), .val (.int p4), .val (.int (2 : Int32)), .val (.int i1), .val (.int i2), .val (.int i3), .val (.int i4), .val (.ref b1), .val (.ref b2_2), .val (.int (1 : Int32))] [(.ref b1)])) rfl (by rw [hml]; rfl) (Steps.refl _) (argsL := []) (rest := []) (lenOf pd_3 rfl) rfl (by show 2 * 0 + _ ≤ _; exact Nat.le_of_eq rfl) (hb hby at_177) (fun _ _ => ⟨rfl, e65, (by decide : 4 + 0 ≤ _), (by decide : 16 + 0 ≤ _)⟩)
  dsimp only [Pt.U, Pt.locs, Pt.cells, Pt.slots] at X66 l66 y66 z66 st66 hQ66
  subst l66 y66 z66
  obtain ⟨rfl, N66q, eh66⟩ := hQ66
  have N66 := Fr.app N65 N66q
  have e66 : T66.heap = T55.heap := eh66
  obtain ⟨cq67, kq67, q67a, q67b, q67c⟩ := isOf hZ e66 f56
  obtain ⟨_, _, ⟨T67, L67, k67, n67⟩, -, X67, ⟨Lc67, hQ67, l67, y67, z67⟩, st67⟩ := X66.virtualBack hx (y := (⟨"com/example/leeway/leeway/lp/SparseColumn", "rows", "()[I"⟩ : MethodName)) (z := (⟨"com/example/leeway/leeway/lp/SparseColumn", "rows", "()[I"⟩ : MethodName)) hown (mvT hZ (hw _ (List.mem_of_getElem? (i := 40) rfl))) (mvT hZ (hw _ (List.mem_of_getElem? (i := 41) rfl))) (notFace_of_selects (args := #[]) (mvT hZ (hw _ (List.mem_of_getElem? (i := 43) rfl)))) (mvT hZ (hw _ (List.mem_of_getElem? (i := 43) rfl))) (mvT hZ (hw _ (List.mem_of_getElem? (i := 42) rfl))) (by decide) (backOf (W := 0) (gr l Z a0 hw [] b1 b2_2 b15_2 b30_2 k2_2 k15_2 k30_2 i4 i2 (0 : Int32) (0 : Int32) U9 M9 (1 : Int32) T55.heap n0 Zs55 f57 f58 f59 f60 f56 f61 f62 f63) hZ (hw _ (List.mem_of_getElem? (i := 44) rfl)) (hw _ (List.mem_of_getElem? (i := 2) rfl)) (by decide) (by decide)) q67a q67c (g := (mkF m 186 #[.val (.int p0), .val (.int p1), .val (.int p2), .val (.int p3), .val (.int p4), .val (.int (2 : Int32)), .val (.int i1), .val (.int i2), .val (.int i3), .val (.int i4), .val (.ref b1), .val (.ref b2_2), .val (.int (1 : Int32))] [(.ref b1)])) rfl (by rw [hml]; rfl) (Steps.refl _) (argsL := []) (rest := []) (lenOf pd_5 rfl) rfl (by show 2 * 0 + _ ≤ _; exact Nat.le_of_eq rfl) (hb hby at_186) (fun _ _ => ⟨rfl, e66, (by decide : 4 + 0 ≤ _), (by decide : 16 + 0 ≤ _)⟩)
  dsimp only [Pt.U, Pt.locs, Pt.cells, Pt.slots] at X67 l67 y67 z67 st67 hQ67
  subst l67 y67 z67
  obtain ⟨rfl, N67q, eh67⟩ := hQ67
  have N67 := Fr.app N66 N67q
  have e67 : T67.heap = T55.heap := eh67
  obtain ⟨cq68, Arq68, -, Sq68, -, Hq68, -⟩ := id f63
  obtain ⟨cq69, Arq69, -, Sq69, -, Hq69, -⟩ := id f61
  obtain ⟨_, _, ⟨T70, L70, k70, n70⟩, -, X70, ⟨Lc70, hQ70, l70, y70, z70⟩, st70⟩ := Jvm.LawKit.callS X67 hx (y := (⟨"com/example/leeway/leeway/lp/SparseColumnClearPinLaw", "zeroUnless", "([DII)Z"⟩ : MethodName)) hown (mvT hZ (hw _ (List.mem_of_getElem? (i := 45) rfl))) (mvT hZ (hw _ (List.mem_of_getElem? (i := 46) rfl))) (mvT hZ (hw _ (List.mem_of_getElem? (i := 47) rfl))) (mvT hZ (hw _ (List.mem_of_getElem? (i := 48) rfl))) (by decide) (backOf (W := 0) (zu l Z a0 hw [] b2_2 k2_2 U9 (0 : Int32) i4 T55.heap n0 Zs55 f61 hix_225 hrd_225 hd9_225) hZ (hw _ (List.mem_of_getElem? (i := 48) rfl)) (hw _ (List.mem_of_getElem? (i := 47) rfl)) (by decide) (by decide)) (g := (mkF m 225 #[.val (.int p0), .val (.int p1), .val (.int p2), .val (.int p3), .val (.int p4), .val (.int (2 : Int32)), .val (.int i1), .val (.int i2), .val (.int i3), .val (.int i4), .val (.ref b1), .val (.ref b2_2), .val (.int (1 : Int32))] [(.int i4), (.int (0 : Int32)), (.ref b2_2)])) rfl (by rw [hml]; rfl) (argsL := [(.ref b2_2), (.int (0 : Int32)), (.int i4)]) (rest := []) (lenOf pd_6 rfl) rfl (by show 2 * 0 + _ ≤ _; exact Nat.le_of_eq rfl) (hb hby at_225) (fun _ _ => ⟨rfl, e67, (by decide : 4 + 0 ≤ _), (by decide : 16 + 0 ≤ _)⟩)
  dsimp only [Pt.U, Pt.locs, Pt.cells, Pt.slots] at X70 l70 y70 z70 st70 hQ70
  subst l70 y70 z70
  obtain ⟨rfl, N70q, eh70⟩ := hQ70
  have N70 := Fr.app N67 N70q
  have e70 : T70.heap = T55.heap := eh70
  obtain ⟨_, _, ⟨T71, L71, k71, n71⟩, -, X71, ⟨Lc71, hQ71, l71, y71, z71⟩, st71⟩ := Jvm.LawKit.callS X70 hx (y := (⟨"com/example/leeway/leeway/lp/SparseColumnClearPinLaw", "zeroUnless", "([DII)Z"⟩ : MethodName)) hown (mvT hZ (hw _ (List.mem_of_getElem? (i := 45) rfl))) (mvT hZ (hw _ (List.mem_of_getElem? (i := 46) rfl))) (mvT hZ (hw _ (List.mem_of_getElem? (i := 47) rfl))) (mvT hZ (hw _ (List.mem_of_getElem? (i := 48) rfl))) (by decide) (backOf (W := 0) (zu l Z a0 hw [] b2_2 k2_2 U9 (1 : Int32) i4 T55.heap n0 Zs55 f61 hix_236 hrd_236 hd9_236) hZ (hw _ (List.mem_of_getElem? (i := 48) rfl)) (hw _ (List.mem_of_getElem? (i := 47) rfl)) (by decide) (by decide)) (g := (mkF m 236 #[.val (.int p0), .val (.int p1), .val (.int p2), .val (.int p3), .val (.int p4), .val (.int (2 : Int32)), .val (.int i1), .val (.int i2), .val (.int i3), .val (.int i4), .val (.ref b1), .val (.ref b2_2), .val (.int (1 : Int32))] [(.int i4), (.int (1 : Int32)), (.ref b2_2)])) rfl (by rw [hml]; rfl) (argsL := [(.ref b2_2), (.int (1 : Int32)), (.int i4)]) (rest := []) (lenOf pd_6 rfl) rfl (by show 2 * 0 + _ ≤ _; exact Nat.le_of_eq rfl) (hb hby at_236) (fun _ _ => ⟨rfl, e70, (by decide : 4 + 0 ≤ _), (by decide : 16 + 0 ≤ _)⟩)
  dsimp only [Pt.U, Pt.locs, Pt.cells, Pt.slots] at X71 l71 y71 z71 st71 hQ71
  subst l71 y71 z71
  obtain ⟨rfl, N71q, eh71⟩ := hQ71
  have N71 := Fr.app N70 N71q
  have e71 : T71.heap = T55.heap := eh71
  obtain ⟨_, _, ⟨T72, L72, k72, n72⟩, -, X72, ⟨Lc72, hQ72, l72, y72, z72⟩, st72⟩ := Jvm.LawKit.callS X71 hx (y := (⟨"com/example/leeway/leeway/lp/SparseColumnClearPinLaw", "zeroUnless", "([DII)Z"⟩ : MethodName)) hown (mvT hZ (hw _ (List.mem_of_getElem? (i := 45) rfl))) (mvT hZ (hw _ (List.mem_of_getElem? (i := 46) rfl))) (mvT hZ (hw _ (List.mem_of_getElem? (i := 47) rfl))) (mvT hZ (hw _ (List.mem_of_getElem? (i := 48) rfl))) (by decide) (backOf (W := 0) (zu l Z a0 hw [] b2_2 k2_2 U9 (2 : Int32) i4 T55.heap n0 Zs55 f61 hix_247 hrd_247 hd9_247) hZ (hw _ (List.mem_of_getElem? (i := 48) rfl)) (hw _ (List.mem_of_getElem? (i := 47) rfl)) (by decide) (by decide)) (g := (mkF m 247 #[.val (.int p0), .val (.int p1), .val (.int p2), .val (.int p3), .val (.int p4), .val (.int (2 : Int32)), .val (.int i1), .val (.int i2), .val (.int i3), .val (.int i4), .val (.ref b1), .val (.ref b2_2), .val (.int (1 : Int32))] [(.int i4), (.int (2 : Int32)), (.ref b2_2)])) rfl (by rw [hml]; rfl) (argsL := [(.ref b2_2), (.int (2 : Int32)), (.int i4)]) (rest := []) (lenOf pd_6 rfl) rfl (by show 2 * 0 + _ ≤ _; exact Nat.le_of_eq rfl) (hb hby at_247) (fun _ _ => ⟨rfl, e71, (by decide : 4 + 0 ≤ _), (by decide : 16 + 0 ≤ _)⟩)
  dsimp only [Pt.U, Pt.locs, Pt.cells, Pt.slots] at X72 l72 y72 z72 st72 hQ72
  subst l72 y72 z72
  obtain ⟨rfl, N72q, eh72⟩ := hQ72
  have N72 := Fr.app N71 N72q
  have e72 : T72.heap = T55.heap := eh72
  obtain ⟨_, _, ⟨T73, L73, k73, n73⟩, -, X73, ⟨Lc73, hQ73, l73, y73, z73⟩, st73⟩ := Jvm.LawKit.callS X72 hx (y := (⟨"com/example/leeway/leeway/lp/SparseColumnClearPinLaw", "zeroUnless", "([DII)Z"⟩ : MethodName)) hown (mvT hZ (hw _ (List.mem_of_getElem? (i := 45) rfl))) (mvT hZ (hw _ (List.mem_of_getElem? (i := 46) rfl))) (mvT hZ (hw _ (List.mem_of_getElem? (i := 47) rfl))) (mvT hZ (hw _ (List.mem_of_getElem? (i := 48) rfl))) (by decide) (backOf (W := 0) (zu l Z a0 hw [] b2_2 k2_2 U9 (3 : Int32) i4 T55.heap n0 Zs55 f61 hix_258 hrd_258 hd9_258) hZ (hw _ (List.mem_of_getElem? (i := 48) rfl)) (hw _ (List.mem_of_getElem? (i := 47) rfl)) (by decide) (by decide)) (g := (mkF m 258 #[.val (.int p0), .val (.int p1), .val (.int p2), .val (.int p3), .val (.int p4), .val (.int (2 : Int32)), .val (.int i1), .val (.int i2), .val (.int i3), .val (.int i4), .val (.ref b1), .val (.ref b2_2), .val (.int (1 : Int32))] [(.int i4), (.int (3 : Int32)), (.ref b2_2)])) rfl (by rw [hml]; rfl) (argsL := [(.ref b2_2), (.int (3 : Int32)), (.int i4)]) (rest := []) (lenOf pd_6 rfl) rfl (by show 2 * 0 + _ ≤ _; exact Nat.le_of_eq rfl) (hb hby at_258) (fun _ _ => ⟨rfl, e72, (by decide : 4 + 0 ≤ _), (by decide : 16 + 0 ≤ _)⟩)
  dsimp only [Pt.U, Pt.locs, Pt.cells, Pt.slots] at X73 l73 y73 z73 st73 hQ73
  subst l73 y73 z73
  obtain ⟨rfl, N73q, eh73⟩ := hQ73
  have N73 := Fr.app N72 N73q
  have e73 : T73.heap = T55.heap := eh73
  obtain ⟨fs, hr, hrun, hended, hW, hsame⟩ := X73.leave (v := some (.int (1 : Int32))) (fun h => by rw [Bd.returns] at h; cases h)
  refine ⟨_, _, pre0 _ ?_, hrun, hended, _, _, rfl, ?_, ⟨_, rfl⟩, hW, hsame.mono (by decide) (by decide)⟩
  · show Steps p.tables e below (s₁.setTop (mkF m 0 #[.val (.int p0), .val (.int p1), .val (.int p2), .val (.int p3), .val (.int p4), .unset, .unset, .unset, .unset, .unset, .unset, .unset, .unset] [])) _
    refine XS.iloadN X0.here hx rfl (hb hby at_0) rfl ?_
    refine XS.iconst X0.here hx rfl (hb hby at_1) ?_
    refine XS.iand X0.here hx rfl (hb hby at_2) rfl ?_
    show Steps p.tables e below (s₁.setTop (mkF m 3 #[.val (.int p0), .val (.int p1), .val (.int p2), .val (.int p3), .val (.int p4), .unset, .unset, .unset, .unset, .unset, .unset, .unset, .unset] [(.int (p0 &&& (3 : Int32)))])) _
    rw [hv2]
    show Steps p.tables e below (s₁.setTop (mkF m 3 #[.val (.int p0), .val (.int p1), .val (.int p2), .val (.int p3), .val (.int p4), .unset, .unset, .unset, .unset, .unset, .unset, .unset, .unset] [(.int (2 : Int32))])) _
    refine XS.istore X0.here hx rfl (hb hby at_3) rfl (l' := #[.val (.int p0), .val (.int p1), .val (.int p2), .val (.int p3), .val (.int p4), .val (.int (2 : Int32)), .unset, .unset, .unset, .unset, .unset, .unset, .unset]) rfl ?_
    show Steps p.tables e below (s₁.setTop (mkF m 5 #[.val (.int p0), .val (.int p1), .val (.int p2), .val (.int p3), .val (.int p4), .val (.int (2 : Int32)), .unset, .unset, .unset, .unset, .unset, .unset, .unset] [])) _
    refine XS.iloadN X0.here hx rfl (hb hby at_5) rfl ?_
    refine XS.iconst X0.here hx rfl (hb hby at_6) ?_
    refine XS.iushr X0.here hx rfl (hb hby at_7) rfl ?_
    refine XS.iconst X0.here hx rfl (hb hby at_8) ?_
    refine XS.iand X0.here hx rfl (hb hby at_9) rfl ?_
    show Steps p.tables e below (s₁.setTop (mkF m 10 #[.val (.int p0), .val (.int p1), .val (.int p2), .val (.int p3), .val (.int p4), .val (.int (2 : Int32)), .unset, .unset, .unset, .unset, .unset, .unset, .unset] [(.int (((p0.toUInt32 >>> ((2 : Int32) &&& 31).toUInt32).toInt32) &&& (3 : Int32)))])) _
    rw [hv9]
    show Steps p.tables e below (s₁.setTop (mkF m 10 #[.val (.int p0), .val (.int p1), .val (.int p2), .val (.int p3), .val (.int p4), .val (.int (2 : Int32)), .unset, .unset, .unset, .unset, .unset, .unset, .unset] [(.int i1)])) _
    refine XS.istore X0.here hx rfl (hb hby at_10) rfl (l' := #[.val (.int p0), .val (.int p1), .val (.int p2), .val (.int p3), .val (.int p4), .val (.int (2 : Int32)), .val (.int i1), .unset, .unset, .unset, .unset, .unset, .unset]) rfl ?_
    refine XS.iloadN X0.here hx rfl (hb hby at_12) rfl ?_
    refine XS.iconst X0.here hx rfl (hb hby at_13) ?_
    refine XS.iushr X0.here hx rfl (hb hby at_14) rfl ?_
    refine XS.iconst X0.here hx rfl (hb hby at_15) ?_
    refine XS.iand X0.here hx rfl (hb hby at_16) rfl ?_
    show Steps p.tables e below (s₁.setTop (mkF m 17 #[.val (.int p0), .val (.int p1), .val (.int p2), .val (.int p3), .val (.int p4), .val (.int (2 : Int32)), .val (.int i1), .unset, .unset, .unset, .unset, .unset, .unset] [(.int (((p0.toUInt32 >>> ((4 : Int32) &&& 31).toUInt32).toInt32) &&& (3 : Int32)))])) _
    rw [hv16]
    show Steps p.tables e below (s₁.setTop (mkF m 17 #[.val (.int p0), .val (.int p1), .val (.int p2), .val (.int p3), .val (.int p4), .val (.int (2 : Int32)), .val (.int i1), .unset, .unset, .unset, .unset, .unset, .unset] [(.int i2)])) _
    refine XS.istore X0.here hx rfl (hb hby at_17) rfl (l' := #[.val (.int p0), .val (.int p1), .val (.int p2), .val (.int p3), .val (.int p4), .val (.int (2 : Int32)), .val (.int i1), .val (.int i2), .unset, .unset, .unset, .unset, .unset]) rfl ?_
    refine XS.iloadN X0.here hx rfl (hb hby at_19) rfl ?_
    refine XS.bipush X0.here hx rfl (hb hby at_20) ?_
    refine XS.iushr X0.here hx rfl (hb hby at_22) rfl ?_
    refine XS.iconst X0.here hx rfl (hb hby at_23) ?_
    show Steps p.tables e below (s₁.setTop (mkF m 24 #[.val (.int p0), .val (.int p1), .val (.int p2), .val (.int p3), .val (.int p4), .val (.int (2 : Int32)), .val (.int i1), .val (.int i2), .unset, .unset, .unset, .unset, .unset] [(.int (3 : Int32)), (.int ((p0.toUInt32 >>> ((6 : Int32) &&& 31).toUInt32).toInt32))])) _
    refine XS.iand X0.here hx rfl (hb hby at_24) rfl ?_
    show Steps p.tables e below (s₁.setTop (mkF m 25 #[.val (.int p0), .val (.int p1), .val (.int p2), .val (.int p3), .val (.int p4), .val (.int (2 : Int32)), .val (.int i1), .val (.int i2), .unset, .unset, .unset, .unset, .unset] [(.int (((p0.toUInt32 >>> ((6 : Int32) &&& 31).toUInt32).toInt32) &&& (3 : Int32)))])) _
    rw [hv24]
    show Steps p.tables e below (s₁.setTop (mkF m 25 #[.val (.int p0), .val (.int p1), .val (.int p2), .val (.int p3), .val (.int p4), .val (.int (2 : Int32)), .val (.int i1), .val (.int i2), .unset, .unset, .unset, .unset, .unset] [(.int i3)])) _
    refine XS.istore X0.here hx rfl (hb hby at_25) rfl (l' := #[.val (.int p0), .val (.int p1), .val (.int p2), .val (.int p3), .val (.int p4), .val (.int (2 : Int32)), .val (.int i1), .val (.int i2), .val (.int i3), .unset, .unset, .unset, .unset]) rfl ?_
    refine XS.iloadN X0.here hx rfl (hb hby at_27) rfl ?_
    refine XS.bipush X0.here hx rfl (hb hby at_28) ?_
    refine XS.iushr X0.here hx rfl (hb hby at_30) rfl ?_
    show Steps p.tables e below (s₁.setTop (mkF m 31 #[.val (.int p0), .val (.int p1), .val (.int p2), .val (.int p3), .val (.int p4), .val (.int (2 : Int32)), .val (.int i1), .val (.int i2), .val (.int i3), .unset, .unset, .unset, .unset] [(.int ((p0.toUInt32 >>> ((8 : Int32) &&& 31).toUInt32).toInt32))])) _
    refine XS.iconst X0.here hx rfl (hb hby at_31) ?_
    refine XS.iand X0.here hx rfl (hb hby at_32) rfl ?_
    show Steps p.tables e below (s₁.setTop (mkF m 33 #[.val (.int p0), .val (.int p1), .val (.int p2), .val (.int p3), .val (.int p4), .val (.int (2 : Int32)), .val (.int i1), .val (.int i2), .val (.int i3), .unset, .unset, .unset, .unset] [(.int (((p0.toUInt32 >>> ((8 : Int32) &&& 31).toUInt32).toInt32) &&& (3 : Int32)))])) _
    rw [hv32]
    show Steps p.tables e below (s₁.setTop (mkF m 33 #[.val (.int p0), .val (.int p1), .val (.int p2), .val (.int p3), .val (.int p4), .val (.int (2 : Int32)), .val (.int i1), .val (.int i2), .val (.int i3), .unset, .unset, .unset, .unset] [(.int i4)])) _
    refine XS.istore X0.here hx rfl (hb hby at_33) rfl (l' := #[.val (.int p0), .val (.int p1), .val (.int p2), .val (.int p3), .val (.int p4), .val (.int (2 : Int32)), .val (.int i1), .val (.int i2), .val (.int i3), .val (.int i4), .unset, .unset, .unset]) rfl ?_
    refine st1 _ ?_
    show Steps p.tables e below (T1.setTop (mkF m 38 #[.val (.int p0), .val (.int p1), .val (.int p2), .val (.int p3), .val (.int p4), .val (.int (2 : Int32)), .val (.int i1), .val (.int i2), .val (.int i3), .val (.int i4), .unset, .unset, .unset] [(.ref b1)])) _
    refine XS.dup X1.here hx rfl (hb hby at_38) rfl rfl ?_
    show Steps p.tables e below (T1.setTop (mkF m 39 #[.val (.int p0), .val (.int p1), .val (.int p2), .val (.int p3), .val (.int p4), .val (.int (2 : Int32)), .val (.int i1), .val (.int i2), .val (.int i3), .val (.int i4), .unset, .unset, .unset] [(.ref b1), (.ref b1)])) _
    refine XS.iconst X1.here hx rfl (hb hby at_39) ?_
    refine st2.trans ?_
    show Steps p.tables e below (T2.setTop (mkF m 43 #[.val (.int p0), .val (.int p1), .val (.int p2), .val (.int p3), .val (.int p4), .val (.int (2 : Int32)), .val (.int i1), .val (.int i2), .val (.int i3), .val (.int i4), .unset, .unset, .unset] [(.ref b1)])) _
    refine XS.astore X2.here hx rfl (hb hby at_43) rfl rfl (l' := #[.val (.int p0), .val (.int p1), .val (.int p2), .val (.int p3), .val (.int p4), .val (.int (2 : Int32)), .val (.int i1), .val (.int i2), .val (.int i3), .val (.int i4), .val (.ref b1), .unset, .unset]) rfl ?_
    refine XS.iload X2.here hx rfl (hb hby at_45) rfl ?_
    refine XS.iconst X2.here hx rfl (hb hby at_47) ?_
    refine XS.icmpNo X2.here hx rfl (hb hby at_48) rfl (flt (by decide : ¬ ((2 : Int32) < (1 : Int32)))).1 ?_
    show Steps p.tables e below (T2.setTop (mkF m 51 #[.val (.int p0), .val (.int p1), .val (.int p2), .val (.int p3), .val (.int p4), .val (.int (2 : Int32)), .val (.int i1), .val (.int i2), .val (.int i3), .val (.int i4), .val (.ref b1), .unset, .unset] [])) _
    refine XS.aload X2.here hx rfl (hb hby at_51) rfl rfl ?_
    refine XS.iload X2.here hx rfl (hb hby at_53) rfl ?_
    refine XS.iloadN X2.here hx rfl (hb hby at_55) rfl ?_
    refine XS.i2dS X2.here hx rfl (hb hby at_56) rfl (v := (FP.i2d p1)) rfl ?_
    refine st18.trans ?_
    show Steps p.tables e below (T18.setTop (mkF m 60 #[.val (.int p0), .val (.int p1), .val (.int p2), .val (.int p3), .val (.int p4), .val (.int (2 : Int32)), .val (.int i1), .val (.int i2), .val (.int i3), .val (.int i4), .val (.ref b1), .unset, .unset] [])) _
    refine XS.iload X18.here hx rfl (hb hby at_60) rfl ?_
    show Steps p.tables e below (T18.setTop (mkF m 62 #[.val (.int p0), .val (.int p1), .val (.int p2), .val (.int p3), .val (.int p4), .val (.int (2 : Int32)), .val (.int i1), .val (.int i2), .val (.int i3), .val (.int i4), .val (.ref b1), .unset, .unset] [(.int (2 : Int32))])) _
    refine XS.iconst X18.here hx rfl (hb hby at_62) ?_
    refine XS.icmpNo X18.here hx rfl (hb hby at_63) rfl (flt (by decide : ¬ ((2 : Int32) < (2 : Int32)))).1 ?_
    refine XS.aload X18.here hx rfl (hb hby at_66) rfl rfl ?_
    refine XS.iload X18.here hx rfl (hb hby at_68) rfl ?_
    refine XS.iloadN X18.here hx rfl (hb hby at_70) rfl ?_
    refine XS.i2dS X18.here hx rfl (hb hby at_71) rfl (v := (FP.i2d p2)) rfl ?_
    show Steps p.tables e below (T18.setTop (mkF m 72 #[.val (.int p0), .val (.int p1), .val (.int p2), .val (.int p3), .val (.int p4), .val (.int (2 : Int32)), .val (.int i1), .val (.int i2), .val (.int i3), .val (.int i4), .val (.ref b1), .unset, .unset] [(.double (FP.i2d p2)), (.int i2), (.ref b1)])) _
    refine st28.trans ?_
    show Steps p.tables e below (T28.setTop (mkF m 75 #[.val (.int p0), .val (.int p1), .val (.int p2), .val (.int p3), .val (.int p4), .val (.int (2 : Int32)), .val (.int i1), .val (.int i2), .val (.int i3), .val (.int i4), .val (.ref b1), .unset, .unset] [])) _
    refine XS.iload X28.here hx rfl (hb hby at_75) rfl ?_
    refine XS.iconst X28.here hx rfl (hb hby at_77) ?_
    refine XS.icmpYes X28.here hx rfl (pc0 := 78) (pc' := 90) rfl (hb hby at_78) rfl (tlt (by decide : (2 : Int32) < (3 : Int32))).1 (by decide) (by decide) ?_
    refine XS.aload X28.here hx rfl (hb hby at_90) rfl rfl ?_
    refine st38.trans ?_
    show Steps p.tables e below (T38.setTop (mkF m 95 #[.val (.int p0), .val (.int p1), .val (.int p2), .val (.int p3), .val (.int p4), .val (.int (2 : Int32)), .val (.int i1), .val (.int i2), .val (.int i3), .val (.int i4), .val (.ref b1), .unset, .unset] [])) _
    refine XS.aload X38.here hx rfl (hb hby at_95) rfl rfl ?_
    refine st49.trans ?_
    show Steps p.tables e below (T49.setTop (mkF m 100 #[.val (.int p0), .val (.int p1), .val (.int p2), .val (.int p3), .val (.int p4), .val (.int (2 : Int32)), .val (.int i1), .val (.int i2), .val (.int i3), .val (.int i4), .val (.ref b1), .unset, .unset] [(.ref b2_2)])) _
    refine XS.astore X49.here hx rfl (hb hby at_100) rfl rfl (l' := #[.val (.int p0), .val (.int p1), .val (.int p2), .val (.int p3), .val (.int p4), .val (.int (2 : Int32)), .val (.int i1), .val (.int i2), .val (.int i3), .val (.int i4), .val (.ref b1), .val (.ref b2_2), .unset]) rfl ?_
    refine XS.aload X49.here hx rfl (hb hby at_102) rfl rfl ?_
    refine st50.trans ?_
    show Steps p.tables e below (T50.setTop (mkF m 107 #[.val (.int p0), .val (.int p1), .val (.int p2), .val (.int p3), .val (.int p4), .val (.int (2 : Int32)), .val (.int i1), .val (.int i2), .val (.int i3), .val (.int i4), .val (.ref b1), .val (.ref b2_2), .unset] [(.int (0 : Int32))])) _
    refine XS.ifNo X50.here hx rfl (hb hby at_107) rfl ((if0 _ _).trans (teq (by decide : (0 : Int32) = (0 : Int32))).2) ?_
    show Steps p.tables e below (T50.setTop (mkF m 110 #[.val (.int p0), .val (.int p1), .val (.int p2), .val (.int p3), .val (.int p4), .val (.int (2 : Int32)), .val (.int i1), .val (.int i2), .val (.int i3), .val (.int i4), .val (.ref b1), .val (.ref b2_2), .unset] [])) _
    refine XS.aload X50.here hx rfl (hb hby at_110) rfl rfl ?_
    refine XS.iconst X50.here hx rfl (hb hby at_112) ?_
    refine X50.daload hx (j := (0 : Int32)) (v := (.double (0 : UInt64))) (by rw [e50]; exact Arq51.1) (State.isArrayOf_alike hZ.alike Arq51.2.1) Arq51.2.2 (inb_of Sq51 ⟨by decide, by decide⟩) (Has.at Hq51 (inb_of Sq51 ⟨by decide, by decide⟩) rfl) (g := (mkF m 113 #[.val (.int p0), .val (.int p1), .val (.int p2), .val (.int p3), .val (.int p4), .val (.int (2 : Int32)), .val (.int i1), .val (.int i2), .val (.int i3), .val (.int i4), .val (.ref b1), .val (.ref b2_2), .unset] [(.int (0 : Int32)), (.ref b2_2)])) rfl rfl (hb hby at_113) _ ?_
    show Steps p.tables e below (T50.setTop (mkF m 114 #[.val (.int p0), .val (.int p1), .val (.int p2), .val (.int p3), .val (.int p4), .val (.int (2 : Int32)), .val (.int i1), .val (.int i2), .val (.int i3), .val (.int i4), .val (.ref b1), .val (.ref b2_2), .unset] [(.double (0 : UInt64))])) _
    refine XS.dconst0 X50.here hx rfl (hb hby at_114) (v := (0 : UInt64)) rfl ?_
    refine XS.dcmpS X50.here hx rfl (hb hby at_115) rfl (v := (0 : Int32)) hd115 ?_
    refine XS.ifNo X50.here hx rfl (hb hby at_116) rfl ((if0 _ _).trans (teq (by decide : (0 : Int32) = (0 : Int32))).2) ?_
    show Steps p.tables e below (T50.setTop (mkF m 119 #[.val (.int p0), .val (.int p1), .val (.int p2), .val (.int p3), .val (.int p4), .val (.int (2 : Int32)), .val (.int i1), .val (.int i2), .val (.int i3), .val (.int i4), .val (.ref b1), .val (.ref b2_2), .unset] [])) _
    refine XS.aload X50.here hx rfl (hb hby at_119) rfl rfl ?_
    refine XS.iconst X50.here hx rfl (hb hby at_121) ?_
    refine X50.daload hx (j := (1 : Int32)) (v := (.double (0 : UInt64))) (by rw [e50]; exact Arq52.1) (State.isArrayOf_alike hZ.alike Arq52.2.1) Arq52.2.2 (inb_of Sq52 ⟨by decide, by decide⟩) (Has.at Hq52 (inb_of Sq52 ⟨by decide, by decide⟩) rfl) (g := (mkF m 122 #[.val (.int p0), .val (.int p1), .val (.int p2), .val (.int p3), .val (.int p4), .val (.int (2 : Int32)), .val (.int i1), .val (.int i2), .val (.int i3), .val (.int i4), .val (.ref b1), .val (.ref b2_2), .unset] [(.int (1 : Int32)), (.ref b2_2)])) rfl rfl (hb hby at_122) _ ?_
    show Steps p.tables e below (T50.setTop (mkF m 123 #[.val (.int p0), .val (.int p1), .val (.int p2), .val (.int p3), .val (.int p4), .val (.int (2 : Int32)), .val (.int i1), .val (.int i2), .val (.int i3), .val (.int i4), .val (.ref b1), .val (.ref b2_2), .unset] [(.double (0 : UInt64))])) _
    refine XS.dconst0 X50.here hx rfl (hb hby at_123) (v := (0 : UInt64)) rfl ?_
    refine XS.dcmpS X50.here hx rfl (hb hby at_124) rfl (v := (0 : Int32)) hd124 ?_
    refine XS.ifNo X50.here hx rfl (hb hby at_125) rfl ((if0 _ _).trans (teq (by decide : (0 : Int32) = (0 : Int32))).2) ?_
    show Steps p.tables e below (T50.setTop (mkF m 128 #[.val (.int p0), .val (.int p1), .val (.int p2), .val (.int p3), .val (.int p4), .val (.int (2 : Int32)), .val (.int i1), .val (.int i2), .val (.int i3), .val (.int i4), .val (.ref b1), .val (.ref b2_2), .unset] [])) _
    refine XS.aload X50.here hx rfl (hb hby at_128) rfl rfl ?_
    refine XS.iconst X50.here hx rfl (hb hby at_130) ?_
    refine X50.daload hx (j := (2 : Int32)) (v := (.double (0 : UInt64))) (by rw [e50]; exact Arq53.1) (State.isArrayOf_alike hZ.alike Arq53.2.1) Arq53.2.2 (inb_of Sq53 ⟨by decide, by decide⟩) (Has.at Hq53 (inb_of Sq53 ⟨by decide, by decide⟩) rfl) (g := (mkF m 131 #[.val (.int p0), .val (.int p1), .val (.int p2), .val (.int p3), .val (.int p4), .val (.int (2 : Int32)), .val (.int i1), .val (.int i2), .val (.int i3), .val (.int i4), .val (.ref b1), .val (.ref b2_2), .unset] [(.int (2 : Int32)), (.ref b2_2)])) rfl rfl (hb hby at_131) _ ?_
    show Steps p.tables e below (T50.setTop (mkF m 132 #[.val (.int p0), .val (.int p1), .val (.int p2), .val (.int p3), .val (.int p4), .val (.int (2 : Int32)), .val (.int i1), .val (.int i2), .val (.int i3), .val (.int i4), .val (.ref b1), .val (.ref b2_2), .unset] [(.double (0 : UInt64))])) _
    refine XS.dconst0 X50.here hx rfl (hb hby at_132) (v := (0 : UInt64)) rfl ?_
    refine XS.dcmpS X50.here hx rfl (hb hby at_133) rfl (v := (0 : Int32)) hd133 ?_
    refine XS.ifNo X50.here hx rfl (hb hby at_134) rfl ((if0 _ _).trans (teq (by decide : (0 : Int32) = (0 : Int32))).2) ?_
    show Steps p.tables e below (T50.setTop (mkF m 137 #[.val (.int p0), .val (.int p1), .val (.int p2), .val (.int p3), .val (.int p4), .val (.int (2 : Int32)), .val (.int i1), .val (.int i2), .val (.int i3), .val (.int i4), .val (.ref b1), .val (.ref b2_2), .unset] [])) _
    refine XS.aload X50.here hx rfl (hb hby at_137) rfl rfl ?_
    refine XS.iconst X50.here hx rfl (hb hby at_139) ?_
    refine X50.daload hx (j := (3 : Int32)) (v := (.double (0 : UInt64))) (by rw [e50]; exact Arq54.1) (State.isArrayOf_alike hZ.alike Arq54.2.1) Arq54.2.2 (inb_of Sq54 ⟨by decide, by decide⟩) (Has.at Hq54 (inb_of Sq54 ⟨by decide, by decide⟩) rfl) (g := (mkF m 140 #[.val (.int p0), .val (.int p1), .val (.int p2), .val (.int p3), .val (.int p4), .val (.int (2 : Int32)), .val (.int i1), .val (.int i2), .val (.int i3), .val (.int i4), .val (.ref b1), .val (.ref b2_2), .unset] [(.int (3 : Int32)), (.ref b2_2)])) rfl rfl (hb hby at_140) _ ?_
    show Steps p.tables e below (T50.setTop (mkF m 141 #[.val (.int p0), .val (.int p1), .val (.int p2), .val (.int p3), .val (.int p4), .val (.int (2 : Int32)), .val (.int i1), .val (.int i2), .val (.int i3), .val (.int i4), .val (.ref b1), .val (.ref b2_2), .unset] [(.double (0 : UInt64))])) _
    refine XS.dconst0 X50.here hx rfl (hb hby at_141) (v := (0 : UInt64)) rfl ?_
    refine XS.dcmpS X50.here hx rfl (hb hby at_142) rfl (v := (0 : Int32)) hd142 ?_
    refine XS.ifNo X50.here hx rfl (hb hby at_143) rfl ((if0 _ _).trans (teq (by decide : (0 : Int32) = (0 : Int32))).2) ?_
    show Steps p.tables e below (T50.setTop (mkF m 146 #[.val (.int p0), .val (.int p1), .val (.int p2), .val (.int p3), .val (.int p4), .val (.int (2 : Int32)), .val (.int i1), .val (.int i2), .val (.int i3), .val (.int i4), .val (.ref b1), .val (.ref b2_2), .unset] [])) _
    refine XS.iconst X50.here hx rfl (hb hby at_146) ?_
    refine XS.goto X50.here hx rfl (pc0 := 147) (pc' := 151) rfl (hb hby at_147) (by decide) (by decide) ?_
    refine XS.istore X50.here hx rfl (hb hby at_151) rfl (l' := #[.val (.int p0), .val (.int p1), .val (.int p2), .val (.int p3), .val (.int p4), .val (.int (2 : Int32)), .val (.int i1), .val (.int i2), .val (.int i3), .val (.int i4), .val (.ref b1), .val (.ref b2_2), .val (.int (1 : Int32))]) rfl ?_
    refine XS.aload X50.here hx rfl (hb hby at_153) rfl rfl ?_
    refine XS.iload X50.here hx rfl (hb hby at_155) rfl ?_
    refine XS.iload X50.here hx rfl (hb hby at_157) rfl ?_
    show Steps p.tables e below (T50.setTop (mkF m 159 #[.val (.int p0), .val (.int p1), .val (.int p2), .val (.int p3), .val (.int p4), .val (.int (2 : Int32)), .val (.int i1), .val (.int i2), .val (.int i3), .val (.int i4), .val (.ref b1), .val (.ref b2_2), .val (.int (1 : Int32))] [(.int p4), (.int i4), (.ref b1)])) _
    refine XS.i2dS X50.here hx rfl (hb hby at_159) rfl (v := (FP.i2d p4)) rfl ?_
    refine st55.trans ?_
    show Steps p.tables e below (T55.setTop (mkF m 163 #[.val (.int p0), .val (.int p1), .val (.int p2), .val (.int p3), .val (.int p4), .val (.int (2 : Int32)), .val (.int i1), .val (.int i2), .val (.int i3), .val (.int i4), .val (.ref b1), .val (.ref b2_2), .val (.int (1 : Int32))] [])) _
    refine XS.aload X55.here hx rfl (hb hby at_163) rfl rfl ?_
    refine st65.trans ?_
    show Steps p.tables e below (T65.setTop (mkF m 168 #[.val (.int p0), .val (.int p1), .val (.int p2), .val (.int p3), .val (.int p4), .val (.int (2 : Int32)), .val (.int i1), .val (.int i2), .val (.int i3), .val (.int i4), .val (.ref b1), .val (.ref b2_2), .val (.int (1 : Int32))] [(.ref b2_2)])) _
    refine XS.astore X65.here hx rfl (hb hby at_168) rfl rfl (l' := #[.val (.int p0), .val (.int p1), .val (.int p2), .val (.int p3), .val (.int p4), .val (.int (2 : Int32)), .val (.int i1), .val (.int i2), .val (.int i3), .val (.int i4), .val (.ref b1), .val (.ref b2_2), .val (.int (1 : Int32))]) rfl ?_
    refine XS.iload X65.here hx rfl (hb hby at_170) rfl ?_
    show Steps p.tables e below (T65.setTop (mkF m 172 #[.val (.int p0), .val (.int p1), .val (.int p2), .val (.int p3), .val (.int p4), .val (.int (2 : Int32)), .val (.int i1), .val (.int i2), .val (.int i3), .val (.int i4), .val (.ref b1), .val (.ref b2_2), .val (.int (1 : Int32))] [(.int (1 : Int32))])) _
    refine XS.ifNo X65.here hx rfl (hb hby at_172) rfl ((if0 _ _).trans (feq (by decide : ¬ ((1 : Int32) = (0 : Int32)))).1) ?_
    refine XS.aload X65.here hx rfl (hb hby at_175) rfl rfl ?_
    refine st66.trans ?_
    show Steps p.tables e below (T66.setTop (mkF m 180 #[.val (.int p0), .val (.int p1), .val (.int p2), .val (.int p3), .val (.int p4), .val (.int (2 : Int32)), .val (.int i1), .val (.int i2), .val (.int i3), .val (.int i4), .val (.ref b1), .val (.ref b2_2), .val (.int (1 : Int32))] [(.int (1 : Int32))])) _
    refine XS.iconst X66.here hx rfl (hb hby at_180) ?_
    refine XS.icmpNo X66.here hx rfl (hb hby at_181) rfl (teq (by decide : (1 : Int32) = (1 : Int32))).2 ?_
    refine XS.aload X66.here hx rfl (hb hby at_184) rfl rfl ?_
    show Steps p.tables e below (T66.setTop (mkF m 186 #[.val (.int p0), .val (.int p1), .val (.int p2), .val (.int p3), .val (.int p4), .val (.int (2 : Int32)), .val (.int i1), .val (.int i2), .val (.int i3), .val (.int i4), .val (.ref b1), .val (.ref b2_2), .val (.int (1 : Int32))] [(.ref b1)])) _
    refine st67.trans ?_
    show Steps p.tables e below (T67.setTop (mkF m 189 #[.val (.int p0), .val (.int p1), .val (.int p2), .val (.int p3), .val (.int p4), .val (.int (2 : Int32)), .val (.int i1), .val (.int i2), .val (.int i3), .val (.int i4), .val (.ref b1), .val (.ref b2_2), .val (.int (1 : Int32))] [(.ref b30_2)])) _
    refine XS.iconst X67.here hx rfl (hb hby at_189) ?_
    refine X67.iaload hx (j := (0 : Int32)) (v := (.int i4)) (by rw [e67]; exact Arq68.1) (State.isArrayOf_alike hZ.alike Arq68.2.1) Arq68.2.2 (inb_of Sq68 ⟨by decide, by decide⟩) (Has.at Hq68 (inb_of Sq68 ⟨by decide, by decide⟩) rfl) (g := (mkF m 190 #[.val (.int p0), .val (.int p1), .val (.int p2), .val (.int p3), .val (.int p4), .val (.int (2 : Int32)), .val (.int i1), .val (.int i2), .val (.int i3), .val (.int i4), .val (.ref b1), .val (.ref b2_2), .val (.int (1 : Int32))] [(.int (0 : Int32)), (.ref b30_2)])) rfl rfl (hb hby at_190) _ ?_
    show Steps p.tables e below (T67.setTop (mkF m 191 #[.val (.int p0), .val (.int p1), .val (.int p2), .val (.int p3), .val (.int p4), .val (.int (2 : Int32)), .val (.int i1), .val (.int i2), .val (.int i3), .val (.int i4), .val (.ref b1), .val (.ref b2_2), .val (.int (1 : Int32))] [(.int i4)])) _
    refine XS.iload X67.here hx rfl (hb hby at_191) rfl ?_
    refine XS.icmpNo X67.here hx rfl (hb hby at_193) rfl (teq (rfl : i4 = i4)).2 ?_
    refine XS.aload X67.here hx rfl (hb hby at_196) rfl rfl ?_
    show Steps p.tables e below (T67.setTop (mkF m 198 #[.val (.int p0), .val (.int p1), .val (.int p2), .val (.int p3), .val (.int p4), .val (.int (2 : Int32)), .val (.int i1), .val (.int i2), .val (.int i3), .val (.int i4), .val (.ref b1), .val (.ref b2_2), .val (.int (1 : Int32))] [(.ref b2_2)])) _
    refine XS.iload X67.here hx rfl (hb hby at_198) rfl ?_
    refine X67.daload hx (j := i4) (v := (.double y9)) (by rw [e67]; exact Arq69.1) (State.isArrayOf_alike hZ.alike Arq69.2.1) Arq69.2.2 (inb_of Sq69 hix4) (Has.at Hq69 (inb_of Sq69 hix4) hr200) (g := (mkF m 200 #[.val (.int p0), .val (.int p1), .val (.int p2), .val (.int p3), .val (.int p4), .val (.int (2 : Int32)), .val (.int i1), .val (.int i2), .val (.int i3), .val (.int i4), .val (.ref b1), .val (.ref b2_2), .val (.int (1 : Int32))] [(.int i4), (.ref b2_2)])) rfl rfl (hb hby at_200) _ ?_
    show Steps p.tables e below (T67.setTop (mkF m 201 #[.val (.int p0), .val (.int p1), .val (.int p2), .val (.int p3), .val (.int p4), .val (.int (2 : Int32)), .val (.int i1), .val (.int i2), .val (.int i3), .val (.int i4), .val (.ref b1), .val (.ref b2_2), .val (.int (1 : Int32))] [(.double y9)])) _
    refine XS.iload X67.here hx rfl (hb hby at_201) rfl ?_
    refine XS.i2dS X67.here hx rfl (hb hby at_203) rfl (v := (FP.i2d p4)) rfl ?_
    refine XS.dcmpS X67.here hx rfl (hb hby at_204) rfl (v := (0 : Int32)) hd204 ?_
    refine XS.ifNo X67.here hx rfl (hb hby at_205) rfl ((if0 _ _).trans (teq (by decide : (0 : Int32) = (0 : Int32))).2) ?_
    show Steps p.tables e below (T67.setTop (mkF m 208 #[.val (.int p0), .val (.int p1), .val (.int p2), .val (.int p3), .val (.int p4), .val (.int (2 : Int32)), .val (.int i1), .val (.int i2), .val (.int i3), .val (.int i4), .val (.ref b1), .val (.ref b2_2), .val (.int (1 : Int32))] [])) _
    refine XS.iconst X67.here hx rfl (hb hby at_208) ?_
    refine XS.goto X67.here hx rfl (pc0 := 209) (pc' := 213) rfl (hb hby at_209) (by decide) (by decide) ?_
    refine XS.istore X67.here hx rfl (hb hby at_213) rfl (l' := #[.val (.int p0), .val (.int p1), .val (.int p2), .val (.int p3), .val (.int p4), .val (.int (2 : Int32)), .val (.int i1), .val (.int i2), .val (.int i3), .val (.int i4), .val (.ref b1), .val (.ref b2_2), .val (.int (1 : Int32))]) rfl ?_
    refine XS.iload X67.here hx rfl (hb hby at_215) rfl ?_
    refine XS.ifNo X67.here hx rfl (hb hby at_217) rfl ((if0 _ _).trans (feq (by decide : ¬ ((1 : Int32) = (0 : Int32)))).1) ?_
    refine XS.aload X67.here hx rfl (hb hby at_220) rfl rfl ?_
    show Steps p.tables e below (T67.setTop (mkF m 222 #[.val (.int p0), .val (.int p1), .val (.int p2), .val (.int p3), .val (.int p4), .val (.int (2 : Int32)), .val (.int i1), .val (.int i2), .val (.int i3), .val (.int i4), .val (.ref b1), .val (.ref b2_2), .val (.int (1 : Int32))] [(.ref b2_2)])) _
    refine XS.iconst X67.here hx rfl (hb hby at_222) ?_
    refine XS.iload X67.here hx rfl (hb hby at_223) rfl ?_
    refine st70 _ ?_
    show Steps p.tables e below (T70.setTop (mkF m 228 #[.val (.int p0), .val (.int p1), .val (.int p2), .val (.int p3), .val (.int p4), .val (.int (2 : Int32)), .val (.int i1), .val (.int i2), .val (.int i3), .val (.int i4), .val (.ref b1), .val (.ref b2_2), .val (.int (1 : Int32))] [(.int (1 : Int32))])) _
    refine XS.ifNo X70.here hx rfl (hb hby at_228) rfl ((if0 _ _).trans (feq (by decide : ¬ ((1 : Int32) = (0 : Int32)))).1) ?_
    refine XS.aload X70.here hx rfl (hb hby at_231) rfl rfl ?_
    refine XS.iconst X70.here hx rfl (hb hby at_233) ?_
    show Steps p.tables e below (T70.setTop (mkF m 234 #[.val (.int p0), .val (.int p1), .val (.int p2), .val (.int p3), .val (.int p4), .val (.int (2 : Int32)), .val (.int i1), .val (.int i2), .val (.int i3), .val (.int i4), .val (.ref b1), .val (.ref b2_2), .val (.int (1 : Int32))] [(.int (1 : Int32)), (.ref b2_2)])) _
    refine XS.iload X70.here hx rfl (hb hby at_234) rfl ?_
    refine st71 _ ?_
    show Steps p.tables e below (T71.setTop (mkF m 239 #[.val (.int p0), .val (.int p1), .val (.int p2), .val (.int p3), .val (.int p4), .val (.int (2 : Int32)), .val (.int i1), .val (.int i2), .val (.int i3), .val (.int i4), .val (.ref b1), .val (.ref b2_2), .val (.int (1 : Int32))] [(.int (1 : Int32))])) _
    refine XS.ifNo X71.here hx rfl (hb hby at_239) rfl ((if0 _ _).trans (feq (by decide : ¬ ((1 : Int32) = (0 : Int32)))).1) ?_
    refine XS.aload X71.here hx rfl (hb hby at_242) rfl rfl ?_
    refine XS.iconst X71.here hx rfl (hb hby at_244) ?_
    refine XS.iload X71.here hx rfl (hb hby at_245) rfl ?_
    show Steps p.tables e below (T71.setTop (mkF m 247 #[.val (.int p0), .val (.int p1), .val (.int p2), .val (.int p3), .val (.int p4), .val (.int (2 : Int32)), .val (.int i1), .val (.int i2), .val (.int i3), .val (.int i4), .val (.ref b1), .val (.ref b2_2), .val (.int (1 : Int32))] [(.int i4), (.int (2 : Int32)), (.ref b2_2)])) _
    refine st72 _ ?_
    show Steps p.tables e below (T72.setTop (mkF m 250 #[.val (.int p0), .val (.int p1), .val (.int p2), .val (.int p3), .val (.int p4), .val (.int (2 : Int32)), .val (.int i1), .val (.int i2), .val (.int i3), .val (.int i4), .val (.ref b1), .val (.ref b2_2), .val (.int (1 : Int32))] [(.int (1 : Int32))])) _
    refine XS.ifNo X72.here hx rfl (hb hby at_250) rfl ((if0 _ _).trans (feq (by decide : ¬ ((1 : Int32) = (0 : Int32)))).1) ?_
    refine XS.aload X72.here hx rfl (hb hby at_253) rfl rfl ?_
    refine XS.iconst X72.here hx rfl (hb hby at_255) ?_
    refine XS.iload X72.here hx rfl (hb hby at_256) rfl ?_
    refine st73 _ ?_
    show Steps p.tables e below (T73.setTop (mkF m 261 #[.val (.int p0), .val (.int p1), .val (.int p2), .val (.int p3), .val (.int p4), .val (.int (2 : Int32)), .val (.int i1), .val (.int i2), .val (.int i3), .val (.int i4), .val (.ref b1), .val (.ref b2_2), .val (.int (1 : Int32))] [(.int (1 : Int32))])) _
    refine XS.ifNo X73.here hx rfl (hb hby at_261) rfl ((if0 _ _).trans (feq (by decide : ¬ ((1 : Int32) = (0 : Int32)))).1) ?_
    refine XS.iconst X73.here hx rfl (hb hby at_264) ?_
    refine XS.goto X73.here hx rfl (pc0 := 265) (pc' := 269) rfl (hb hby at_265) (by decide) (by decide) ?_
    refine XS.istore X73.here hx rfl (hb hby at_269) rfl (l' := #[.val (.int p0), .val (.int p1), .val (.int p2), .val (.int p3), .val (.int p4), .val (.int (2 : Int32)), .val (.int i1), .val (.int i2), .val (.int i3), .val (.int i4), .val (.ref b1), .val (.ref b2_2), .val (.int (1 : Int32))]) rfl ?_
    refine XS.iload X73.here hx rfl (hb hby at_271) rfl ?_
    exact retN X73 hx (t := .boolean) Bd.returns (by simp) (hb hby at_273) hr
  · show Q0 n0 _ T73.heap _
    rw [e73]
    exact ⟨rfl, N73⟩
set_option maxRecDepth 65536 in
set_option maxHeartbeats 40000000 in
theorem rm3SS (l : Launch) (Z : State) (a0 : Array Value) (hw : ∀ d ∈ tables_1, d.before a0 Z = true) (ws : List Jvm.Cond) (p0 : Int32) (p1 : Int32) (p2 : Int32) (p3 : Int32) (p4 : Int32) (i4 : Int32) (U1 : List Value) (x1 : UInt64) (y1 : UInt64) (M1 : List Value) (U2 : List Value) (x2 : UInt64) (y2 : UInt64) (U3 : List Value) (x3 : UInt64) (y3 : UInt64) (U9 : List Value) (M9 : List Value) (y9 : UInt64) (i1 : Int32) (i2 : Int32) (i3 : Int32) (h0 : Heap) (n0 : Nat) (Z0 : n0 ≤ h0.size) (hix4 : ¬ i4 < 0 ∧ i4 < (4 : Int32)) (hr200 : U9.getD i4.toNatClampNeg (.double (0 : UInt64)) = .double y9) (hv2 : (p0 &&& (3 : Int32)) = (3 : Int32)) (hv9 : (((p0.toUInt32 >>> ((2 : Int32) &&& 31).toUInt32).toInt32) &&& (3 : Int32)) = i1) (hv16 : (((p0.toUInt32 >>> ((4 : Int32) &&& 31).toUInt32).toInt32) &&& (3 : Int32)) = i2) (hv24 : (((p0.toUInt32 >>> ((6 : Int32) &&& 31).toUInt32).toInt32) &&& (3 : Int32)) = i3) (hv32 : (((p0.toUInt32 >>> ((8 : Int32) &&& 31).toUInt32).toInt32) &&& (3 : Int32)) = i4) (hix_57 : ¬ i1 < 0 ∧ i1 < (4 : Int32)) (hrl_57 : ([(.int (0 : Int32)), (.int (0 : Int32)), (.int (0 : Int32)), (.int (0 : Int32))] : List Value).getD i1.toNatClampNeg (.int (0 : Int32)) = .int (0 : Int32)) (hrv_57 : ([(.double (0 : UInt64)), (.double (0 : UInt64)), (.double (0 : UInt64)), (.double (0 : UInt64))] : List Value).getD i1.toNatClampNeg (.double (0 : UInt64)) = .double x1) (hvl_57 : i1.toNatClampNeg < ([(.double (0 : UInt64)), (.double (0 : UInt64)), (.double (0 : UInt64)), (.double (0 : UInt64))] : List Value).length) (hll_57 : i1.toNatClampNeg < ([(.int (0 : Int32)), (.int (0 : Int32)), (.int (0 : Int32)), (.int (0 : Int32))] : List Value).length) (hls_57 : (([(.int (0 : Int32)), (.int (0 : Int32)), (.int (0 : Int32)), (.int (0 : Int32))] : List Value).set i1.toNatClampNeg (.int (1 : Int32))) = M1) (hvs_57 : (([(.double (0 : UInt64)), (.double (0 : UInt64)), (.double (0 : UInt64)), (.double (0 : UInt64))] : List Value).set i1.toNatClampNeg (.double y1)) = U1) (nn41_57 : Jvm.Free.Fl.NoNaN64 (FP.dadd x1 (FP.i2d p1))) (hq41_57 : (FP.dadd x1 (FP.i2d p1)) = y1) (hix_72 : ¬ i2 < 0 ∧ i2 < (4 : Int32)) (hrl_72 : M1.getD i2.toNatClampNeg (.int (0 : Int32)) = .int (1 : Int32)) (hrv_72 : U1.getD i2.toNatClampNeg (.double (0 : UInt64)) = .double x2) (hvl_72 : i2.toNatClampNeg < U1.length) (hvs_72 : (U1.set i2.toNatClampNeg (.double y2)) = U2) (nn41_72 : Jvm.Free.Fl.NoNaN64 (FP.dadd x2 (FP.i2d p2))) (hq41_72 : (FP.dadd x2 (FP.i2d p2)) = y2) (hix_87 : ¬ i3 < 0 ∧ i3 < (4 : Int32)) (hrl_87 : M1.getD i3.toNatClampNeg (.int (0 : Int32)) = .int (1 : Int32)) (hrv_87 : U2.getD i3.toNatClampNeg (.double (0 : UInt64)) = .double x3) (hvl_87 : i3.toNatClampNeg < U2.length) (hvs_87 : (U2.set i3.toNatClampNeg (.double y3)) = U3) (nn41_87 : Jvm.Free.Fl.NoNaN64 (FP.dadd x3 (FP.i2d p3))) (hq41_87 : (FP.dadd x3 (FP.i2d p3)) = y3) (hx0_92 : ¬ i1 < 0 ∧ i1 < (4 : Int32)) (hv0_92 : i1.toNatClampNeg < U3.length) (hl0_92 : i1.toNatClampNeg < M1.length) (hvs_92 : (U3.set i1.toNatClampNeg (.double (0 : UInt64))) = ([(.double (0 : UInt64)), (.double (0 : UInt64)), (.double (0 : UInt64)), (.double (0 : UInt64))] : List Value)) (hls_92 : (M1.set i1.toNatClampNeg (.int (0 : Int32))) = ([(.int (0 : Int32)), (.int (0 : Int32)), (.int (0 : Int32)), (.int (0 : Int32))] : List Value)) (hd115 : (cmpValue (FP.dcmp (0 : UInt64) (0 : UInt64)) .l) = (0 : Int32)) (hd124 : (cmpValue (FP.dcmp (0 : UInt64) (0 : UInt64)) .l) = (0 : Int32)) (hd133 : (cmpValue (FP.dcmp (0 : UInt64) (0 : UInt64)) .l) = (0 : Int32)) (hd142 : (cmpValue (FP.dcmp (0 : UInt64) (0 : UInt64)) .l) = (0 : Int32)) (hix_160 : ¬ i4 < 0 ∧ i4 < (4 : Int32)) (hrl_160 : ([(.int (0 : Int32)), (.int (0 : Int32)), (.int (0 : Int32)), (.int (0 : Int32))] : List Value).getD i4.toNatClampNeg (.int (0 : Int32)) = .int (0 : Int32)) (hrv_160 : ([(.double (0 : UInt64)), (.double (0 : UInt64)), (.double (0 : UInt64)), (.double (0 : UInt64))] : List Value).getD i4.toNatClampNeg (.double (0 : UInt64)) = .double (0 : UInt64)) (hvl_160 : i4.toNatClampNeg < ([(.double (0 : UInt64)), (.double (0 : UInt64)), (.double (0 : UInt64)), (.double (0 : UInt64))] : List Value).length) (hll_160 : i4.toNatClampNeg < ([(.int (0 : Int32)), (.int (0 : Int32)), (.int (0 : Int32)), (.int (0 : Int32))] : List Value).length) (hls_160 : (([(.int (0 : Int32)), (.int (0 : Int32)), (.int (0 : Int32)), (.int (0 : Int32))] : List Value).set i4.toNatClampNeg (.int (1 : Int32))) = M9) (hvs_160 : (([(.double (0 : UInt64)), (.double (0 : UInt64)), (.double (0 : UInt64)), (.double (0 : UInt64))] : List Value).set i4.toNatClampNeg (.double y9)) = U9) (nn41_160 : Jvm.Free.Fl.NoNaN64 (FP.dadd (0 : UInt64) (FP.i2d p4))) (hq41_160 : (FP.dadd (0 : UInt64) (FP.i2d p4)) = y9) (hd204 : (cmpValue (FP.dcmp y9 (FP.i2d p4)) .l) = (0 : Int32)) (hix_225 : ¬ (0 : Int32) < 0 ∧ (0 : Int32) < (4 : Int32)) (hrd_225 : ¬ ((0 : Int32) = i4) → U9.getD (0 : Int32).toNatClampNeg (.double (0 : UInt64)) = .double (0 : UInt64)) (hd9_225 : (cmpValue (FP.dcmp (0 : UInt64) (0 : UInt64)) .l) = (0 : Int32)) (hix_236 : ¬ (1 : Int32) < 0 ∧ (1 : Int32) < (4 : Int32)) (hrd_236 : ¬ ((1 : Int32) = i4) → U9.getD (1 : Int32).toNatClampNeg (.double (0 : UInt64)) = .double (0 : UInt64)) (hd9_236 : (cmpValue (FP.dcmp (0 : UInt64) (0 : UInt64)) .l) = (0 : Int32)) (hix_247 : ¬ (2 : Int32) < 0 ∧ (2 : Int32) < (4 : Int32)) (hrd_247 : ¬ ((2 : Int32) = i4) → U9.getD (2 : Int32).toNatClampNeg (.double (0 : UInt64)) = .double (0 : UInt64)) (hd9_247 : (cmpValue (FP.dcmp (0 : UInt64) (0 : UInt64)) .l) = (0 : Int32)) (hix_258 : ¬ (3 : Int32) < 0 ∧ (3 : Int32) < (4 : Int32)) (hrd_258 : ¬ ((3 : Int32) = i4) → U9.getD (3 : Int32).toNatClampNeg (.double (0 : UInt64)) = .double (0 : UInt64)) (hd9_258 : (cmpValue (FP.dcmp (0 : UInt64) (0 : UInt64)) .l) = (0 : Int32)) :
    MetFree l x (head1 (Jvm.Cond.code x code maxLocals ret :: ws) room_1) (fun a U => a = #[(.int p0), (.int p1), (.int p2), (.int p3), (.int p4)] ∧ Z.Warmed39 U.vm ∧ U.heap = h0) (fun _ _ _ _ _ => True) (fun _ U o U' => ∃ v L, o = .returned v ∧ Q0 n0 v U'.heap L ∧ FrameEnd U o U' L room_1.cells room_1.slots) := by
  refine MetFree.of_bodySF (plainFor_of_name pn_com_example_leeway_leeway_lp_SparseColumnClearPinLaw) hisR ?_
  intro p e s m args below meth c s₁ Bd hml0 hP hK
  obtain ⟨rfl, hZ, hh⟩ := hP
  have hx := Bd.exec
  have hby := Bd.bytes
  have hml : c.maxLocals = 13 := hml0
  have hown : s.vm.findClass "com/example/leeway/leeway/lp/SparseColumnClearPinLaw" = some m.cls := findClass_of_methodNamed Bd.named
  have hnm := (name_of_methodNamed Bd.named Bd.method).1
  have X0 : Stand p l e room_1 s m #[(.int p0), (.int p1), (.int p2), (.int p3), (.int p4)] below meth c s₁ [] 0 0 := Stand.of_body Bd
  have e0 : s₁.heap = h0 := by rw [← hh, Bd.state]; rfl
  have N0 := Fr.nil n0
  have pre0 : ∀ t, Steps p.tables e below (s₁.setTop (mkF m 0 #[.val (.int p0), .val (.int p1), .val (.int p2), .val (.int p3), .val (.int p4), .unset, .unset, .unset, .unset, .unset, .unset, .unset, .unset] [])) t → Steps p.tables e below (s₁.setTop (entryFrame m #[(.int p0), (.int p1), (.int p2), (.int p3), (.int p4)] maxLocals)) t := fun t k => castTop (ef_0_IIIII m p0 p1 p2 p3 p4) k
  obtain ⟨T1, h1, X1, e1, E1, A1, D1, -, st1⟩ := newO X0 hx hZ hown (hw _ (List.mem_of_getElem? (i := 0) rfl)) (hw _ (List.mem_of_getElem? (i := 1) rfl)) (hw _ (List.mem_of_getElem? (i := 2) rfl)) e0 (g := (mkF m 35 #[.val (.int p0), .val (.int p1), .val (.int p2), .val (.int p3), .val (.int p4), .val (.int (3 : Int32)), .val (.int i1), .val (.int i2), .val (.int i3), .val (.int i4), .unset, .unset, .unset] [])) rfl (hb hby at_35) (by decide) (by decide)
  obtain ⟨b1, g1⟩ : ∃ z, z = h0.size := ⟨_, rfl⟩
  rw [← g1] at A1 D1 st1
  have g_b1 : n0 ≤ b1 := Nat.le_trans Z0 (Nat.le_of_eq g1.symm)
  have sz_b1 : h0.size ≤ b1 := Nat.le_trans (Keep.refl h0 []).1 (Nat.le_of_eq g1.symm)
  have K1 : Keep h0 h1 [] := (Keep.refl h0 []).ext E1
  have Zs1 := Nat.le_trans Z0 E1.1
  have F1_values : Fld Z h1 b1 "com/example/leeway/leeway/lp/SparseColumn" "values" "[D" .null := D1 (Or.inr (hw _ (List.mem_of_getElem? (i := 11) rfl))) (ty := (.array .double)) (by decide)
  have F1_listed : Fld Z h1 b1 "com/example/leeway/leeway/lp/SparseColumn" "listed" "[Z" .null := D1 (Or.inr (hw _ (List.mem_of_getElem? (i := 14) rfl))) (ty := (.array .boolean)) (by decide)
  have F1_rows : Fld Z h1 b1 "com/example/leeway/leeway/lp/SparseColumn" "rows" "[I" .null := D1 (Or.inr (hw _ (List.mem_of_getElem? (i := 17) rfl))) (ty := (.array .int)) (by decide)
  have F1_count : Fld Z h1 b1 "com/example/leeway/leeway/lp/SparseColumn" "count" "I" (.int (0 : Int32)) := D1 (Or.inl (hw _ (List.mem_of_getElem? (i := 24) rfl))) (ty := .int) (by decide)
  obtain ⟨_, _, ⟨T2, L2, k2, n2⟩, -, X2, ⟨Lc2, hQ2, l2, y2, z2⟩, st2⟩ := X1.specialBack hx (y := (⟨"com/example/leeway/leeway/lp/SparseColumn", "<init>", "(I)V"⟩ : MethodName)) rfl hown (mvT hZ (hw _ (List.mem_of_getElem? (i := 3) rfl))) (mvT hZ (hw _ (List.mem_of_getElem? (i := 4) rfl))) (mvT hZ (hw _ (List.mem_of_getElem? (i := 5) rfl))) (by decide) (backOf (W := 1) (sci l Z a0 hw [] b1 h1 n0 Zs1 g_b1 A1 F1_values F1_listed F1_rows F1_count) hZ (hw _ (List.mem_of_getElem? (i := 5) rfl)) (hw _ (List.mem_of_getElem? (i := 2) rfl)) (by decide) (by decide)) (g := (mkF m 40 #[.val (.int p0), .val (.int p1), .val (.int p2), .val (.int p3), .val (.int p4), .val (.int (3 : Int32)), .val (.int i1), .val (.int i2), .val (.int i3), .val (.int i4), .unset, .unset, .unset] [(.int (4 : Int32)), (.ref b1), (.ref b1)])) rfl (by rw [hml]; rfl) (Steps.refl _) (a := b1) (argsL := [(.int (4 : Int32))]) (rest := [(.ref b1)]) (lenOf pd_0 rfl) rfl (by show 2 * 0 + _ ≤ _; exact Nat.le_of_eq rfl) (hb hby at_40) (fun _ _ => ⟨rfl, e1, (by decide : 1 + 3 ≤ _), (by decide : 4 + 12 ≤ _)⟩)
  dsimp only [Pt.U, Pt.locs, Pt.cells, Pt.slots] at X2 l2 y2 z2 st2 hQ2
  subst l2 y2 z2
  obtain ⟨b2_2, b15_2, b30_2, k2_2, k15_2, k30_2, rfl, N2q, K2q, r3, r4, r5, r6, r7, r8, f9, f10, f11, f12, f13, f14, f15, f16⟩ := hQ2
  have N2 := Fr.app N0 N2q
  have ne_b1_b2_2 : b1 ≠ b2_2 := Nat.ne_of_lt (Nat.lt_of_lt_of_le A1.lt r3)
  have g_b2_2 : n0 ≤ b2_2 := Nat.le_trans Zs1 r3
  have sz_b2_2 : h0.size ≤ b2_2 := Nat.le_trans K1.1 r3
  have ne_b1_b15_2 : b1 ≠ b15_2 := Nat.ne_of_lt (Nat.lt_of_lt_of_le A1.lt r4)
  have g_b15_2 : n0 ≤ b15_2 := Nat.le_trans Zs1 r4
  have sz_b15_2 : h0.size ≤ b15_2 := Nat.le_trans K1.1 r4
  have ne_b1_b30_2 : b1 ≠ b30_2 := Nat.ne_of_lt (Nat.lt_of_lt_of_le A1.lt r5)
  have g_b30_2 : n0 ≤ b30_2 := Nat.le_trans Zs1 r5
  have sz_b30_2 : h0.size ≤ b30_2 := Nat.le_trans K1.1 r5
  have f17 := A1.keep K2q
  have K2 : Keep h0 T2.heap [] := K1.trans K2q (own_allS (Or.inr sz_b1) own_all0)
  have Zs2 := Nat.le_trans Zs1 K2q.1
  obtain ⟨cq18, kq18, q18a, q18b, q18c⟩ := isOf hZ rfl f9
  obtain ⟨_, _, ⟨T18, L18, k18, n18⟩, -, X18, ⟨Lc18, hQ18, l18, y18, z18⟩, st18⟩ := X2.virtualBack hx (y := (⟨"com/example/leeway/leeway/lp/SparseColumn", "add", "(ID)V"⟩ : MethodName)) (z := (⟨"com/example/leeway/leeway/lp/SparseColumn", "add", "(ID)V"⟩ : MethodName)) hown (mvT hZ (hw _ (List.mem_of_getElem? (i := 35) rfl))) (mvT hZ (hw _ (List.mem_of_getElem? (i := 36) rfl))) (notFace_of_selects (args := #[]) (mvT hZ (hw _ (List.mem_of_getElem? (i := 38) rfl)))) (mvT hZ (hw _ (List.mem_of_getElem? (i := 38) rfl))) (mvT hZ (hw _ (List.mem_of_getElem? (i := 37) rfl))) (by decide) (backOf (W := 0) (addN0 l Z a0 hw [] b1 b2_2 b15_2 b30_2 k2_2 k15_2 k30_2 (0 : Int32) (0 : Int32) (0 : Int32) (0 : Int32) ([(.double (0 : UInt64)), (.double (0 : UInt64)), (.double (0 : UInt64)), (.double (0 : UInt64))] : List Value) ([(.int (0 : Int32)), (.int (0 : Int32)), (.int (0 : Int32)), (.int (0 : Int32))] : List Value) U1 M1 i1 (FP.i2d p1) x1 y1 T2.heap n0 Zs2 f10 f11 f12 f13 f9 f14 f15 f16 g_b1 g_b2_2 g_b15_2 g_b30_2 ne_b1_b2_2 ne_b1_b15_2 ne_b1_b30_2 r6 r7 r8 hix_57 hrl_57 hrv_57 hvl_57 hll_57 hls_57 hvs_57 nn41_57 hq41_57) hZ (hw _ (List.mem_of_getElem? (i := 39) rfl)) (hw _ (List.mem_of_getElem? (i := 2) rfl)) (by decide) (by decide)) q18a q18c (g := (mkF m 57 #[.val (.int p0), .val (.int p1), .val (.int p2), .val (.int p3), .val (.int p4), .val (.int (3 : Int32)), .val (.int i1), .val (.int i2), .val (.int i3), .val (.int i4), .val (.ref b1), .unset, .unset] [(.double (FP.i2d p1)), (.int i1), (.ref b1)])) rfl (by rw [hml]; rfl) (Steps.refl _) (argsL := [(.int i1), (.double (FP.i2d p1))]) (rest := []) (lenOf pd_4 rfl) rfl (by show 2 * 0 + _ ≤ _; exact Nat.le_of_eq rfl) (hb hby at_57) (fun _ _ => ⟨rfl, rfl, (by decide : 4 + 0 ≤ _), (by decide : 16 + 0 ≤ _)⟩)
  dsimp only [Pt.U, Pt.locs, Pt.cells, Pt.slots] at X18 l18 y18 z18 st18 hQ18
  subst l18 y18 z18
  obtain ⟨rfl, N18q, K18q, f19, f20, f21, f22, f23, f24, f25, f26⟩ := hQ18
  have N18 := Fr.app N2 N18q
  have f27 := f9.keep K18q
  have K18 : Keep h0 T18.heap [] := K2.trans K18q (own_allS (Or.inr sz_b15_2) (own_allS (Or.inr sz_b1) (own_allS (Or.inr sz_b30_2) (own_allS (Or.inr sz_b2_2) own_all0))))
  have Zs18 := Nat.le_trans Zs2 K18q.1
  obtain ⟨cq28, kq28, q28a, q28b, q28c⟩ := isOf hZ rfl f19
  obtain ⟨_, _, ⟨T28, L28, k28, n28⟩, -, X28, ⟨Lc28, hQ28, l28, y28, z28⟩, st28⟩ := X18.virtualBack hx (y := (⟨"com/example/leeway/leeway/lp/SparseColumn", "add", "(ID)V"⟩ : MethodName)) (z := (⟨"com/example/leeway/leeway/lp/SparseColumn", "add", "(ID)V"⟩ : MethodName)) hown (mvT hZ (hw _ (List.mem_of_getElem? (i := 35) rfl))) (mvT hZ (hw _ (List.mem_of_getElem? (i := 36) rfl))) (notFace_of_selects (args := #[]) (mvT hZ (hw _ (List.mem_of_getElem? (i := 38) rfl)))) (mvT hZ (hw _ (List.mem_of_getElem? (i := 38) rfl))) (mvT hZ (hw _ (List.mem_of_getElem? (i := 37) rfl))) (by decide) (backOf (W := 0) (addL1 l Z a0 hw [] b1 b2_2 b15_2 b30_2 k2_2 k15_2 k30_2 i1 (0 : Int32) (0 : Int32) (0 : Int32) U1 M1 U2 i2 (FP.i2d p2) x2 y2 T18.heap n0 Zs18 f20 f21 f22 f23 f19 f24 f25 f26 g_b1 g_b2_2 g_b15_2 g_b30_2 ne_b1_b2_2 ne_b1_b15_2 ne_b1_b30_2 r6 r7 r8 hix_72 hrl_72 hrv_72 hvl_72 hvs_72 nn41_72 hq41_72) hZ (hw _ (List.mem_of_getElem? (i := 39) rfl)) (hw _ (List.mem_of_getElem? (i := 2) rfl)) (by decide) (by decide)) q28a q28c (g := (mkF m 72 #[.val (.int p0), .val (.int p1), .val (.int p2), .val (.int p3), .val (.int p4), .val (.int (3 : Int32)), .val (.int i1), .val (.int i2), .val (.int i3), .val (.int i4), .val (.ref b1), .unset, .unset] [(.double (FP.i2d p2)), (.int i2), (.ref b1)])) rfl (by rw [hml]; rfl) (Steps.refl _) (argsL := [(.int i2), (.double (FP.i2d p2))]) (rest := []) (lenOf pd_4 rfl) rfl (by show 2 * 0 + _ ≤ _; exact Nat.le_of_eq rfl) (hb hby at_72) (fun _ _ => ⟨rfl, rfl, (by decide : 4 + 0 ≤ _), (by decide : 16 + 0 ≤ _)⟩)
  dsimp only [Pt.U, Pt.locs, Pt.cells, Pt.slots] at X28 l28 y28 z28 st28 hQ28
  subst l28 y28 z28
  obtain ⟨rfl, N28q, K28q, f29, f30, f31, f32, f33, f34, f35, f36⟩ := hQ28
  have N28 := Fr.app N18 N28q
  have f37 := f19.keep K28q
  have f38 := f20.keep K28q (own_niS ne_b1_b2_2 own_ni0)
  have f39 := f21.keep K28q (own_niS ne_b1_b2_2 own_ni0)
  have f40 := f22.keep K28q (own_niS ne_b1_b2_2 own_ni0)
  have f41 := f23.keep K28q (own_niS ne_b1_b2_2 own_ni0)
  have f42 := f25.keep K28q (own_niS (Ne.symm r6) own_ni0)
  have f43 := f26.keep K28q (own_niS (Ne.symm r7) own_ni0)
  have K28 : Keep h0 T28.heap [] := K18.trans K28q (own_allS (Or.inr sz_b2_2) own_all0)
  have Zs28 := Nat.le_trans Zs18 K28q.1
  obtain ⟨cq44, kq44, q44a, q44b, q44c⟩ := isOf hZ rfl f29
  obtain ⟨_, _, ⟨T44, L44, k44, n44⟩, -, X44, ⟨Lc44, hQ44, l44, y44, z44⟩, st44⟩ := X28.virtualBack hx (y := (⟨"com/example/leeway/leeway/lp/SparseColumn", "add", "(ID)V"⟩ : MethodName)) (z := (⟨"com/example/leeway/leeway/lp/SparseColumn", "add", "(ID)V"⟩ : MethodName)) hown (mvT hZ (hw _ (List.mem_of_getElem? (i := 35) rfl))) (mvT hZ (hw _ (List.mem_of_getElem? (i := 36) rfl))) (notFace_of_selects (args := #[]) (mvT hZ (hw _ (List.mem_of_getElem? (i := 38) rfl)))) (mvT hZ (hw _ (List.mem_of_getElem? (i := 38) rfl))) (mvT hZ (hw _ (List.mem_of_getElem? (i := 37) rfl))) (by decide) (backOf (W := 0) (addL1 l Z a0 hw [] b1 b2_2 b15_2 b30_2 k2_2 k15_2 k30_2 i1 (0 : Int32) (0 : Int32) (0 : Int32) U2 M1 U3 i3 (FP.i2d p3) x3 y3 T28.heap n0 Zs28 f30 f31 f32 f33 f29 f34 f35 f36 g_b1 g_b2_2 g_b15_2 g_b30_2 ne_b1_b2_2 ne_b1_b15_2 ne_b1_b30_2 r6 r7 r8 hix_87 hrl_87 hrv_87 hvl_87 hvs_87 nn41_87 hq41_87) hZ (hw _ (List.mem_of_getElem? (i := 39) rfl)) (hw _ (List.mem_of_getElem? (i := 2) rfl)) (by decide) (by decide)) q44a q44c (g := (mkF m 87 #[.val (.int p0), .val (.int p1), .val (.int p2), .val (.int p3), .val (.int p4), .val (.int (3 : Int32)), .val (.int i1), .val (.int i2), .val (.int i3), .val (.int i4), .val (.ref b1), .unset, .unset] [(.double (FP.i2d p3)), (.int i3), (.ref b1)])) rfl (by rw [hml]; rfl) (Steps.refl _) (argsL := [(.int i3), (.double (FP.i2d p3))]) (rest := []) (lenOf pd_4 rfl) rfl (by show 2 * 0 + _ ≤ _; exact Nat.le_of_eq rfl) (hb hby at_87) (fun _ _ => ⟨rfl, rfl, (by decide : 4 + 0 ≤ _), (by decide : 16 + 0 ≤ _)⟩)
  dsimp only [Pt.U, Pt.locs, Pt.cells, Pt.slots] at X44 l44 y44 z44 st44 hQ44
  subst l44 y44 z44
  obtain ⟨rfl, N44q, K44q, f45, f46, f47, f48, f49, f50, f51, f52⟩ := hQ44
  have N44 := Fr.app N28 N44q
  have f53 := f29.keep K44q
  have f54 := f30.keep K44q (own_niS ne_b1_b2_2 own_ni0)
  have f55 := f31.keep K44q (own_niS ne_b1_b2_2 own_ni0)
  have f56 := f32.keep K44q (own_niS ne_b1_b2_2 own_ni0)
  have f57 := f33.keep K44q (own_niS ne_b1_b2_2 own_ni0)
  have f58 := f35.keep K44q (own_niS (Ne.symm r6) own_ni0)
  have f59 := f36.keep K44q (own_niS (Ne.symm r7) own_ni0)
  have K44 : Keep h0 T44.heap [] := K28.trans K44q (own_allS (Or.inr sz_b2_2) own_all0)
  have Zs44 := Nat.le_trans Zs28 K44q.1
  obtain ⟨cq60, kq60, q60a, q60b, q60c⟩ := isOf hZ rfl f45
  obtain ⟨_, _, ⟨T60, L60, k60, n60⟩, -, X60, ⟨Lc60, hQ60, l60, y60, z60⟩, st60⟩ := X44.virtualBack hx (y := (⟨"com/example/leeway/leeway/lp/SparseColumn", "clear", "()V"⟩ : MethodName)) (z := (⟨"com/example/leeway/leeway/lp/SparseColumn", "clear", "()V"⟩ : MethodName)) hown (mvT hZ (hw _ (List.mem_of_getElem? (i := 18) rfl))) (mvT hZ (hw _ (List.mem_of_getElem? (i := 19) rfl))) (notFace_of_selects (args := #[]) (mvT hZ (hw _ (List.mem_of_getElem? (i := 21) rfl)))) (mvT hZ (hw _ (List.mem_of_getElem? (i := 21) rfl))) (mvT hZ (hw _ (List.mem_of_getElem? (i := 20) rfl))) (by decide) (backOf (W := 0) (clr1 l Z a0 hw [] b1 b2_2 b15_2 b30_2 k2_2 k15_2 k30_2 i1 (0 : Int32) (0 : Int32) (0 : Int32) U3 M1 ([(.double (0 : UInt64)), (.double (0 : UInt64)), (.double (0 : UInt64)), (.double (0 : UInt64))] : List Value) ([(.int (0 : Int32)), (.int (0 : Int32)), (.int (0 : Int32)), (.int (0 : Int32))] : List Value) T44.heap n0 Zs44 f46 f47 f48 f49 f45 f50 f51 f52 g_b1 g_b2_2 g_b15_2 g_b30_2 ne_b1_b2_2 ne_b1_b15_2 ne_b1_b30_2 r6 r7 r8 hx0_92 hv0_92 hl0_92 hvs_92 hls_92) hZ (hw _ (List.mem_of_getElem? (i := 22) rfl)) (hw _ (List.mem_of_getElem? (i := 2) rfl)) (by decide) (by decide)) q60a q60c (g := (mkF m 92 #[.val (.int p0), .val (.int p1), .val (.int p2), .val (.int p3), .val (.int p4), .val (.int (3 : Int32)), .val (.int i1), .val (.int i2), .val (.int i3), .val (.int i4), .val (.ref b1), .unset, .unset] [(.ref b1)])) rfl (by rw [hml]; rfl) (Steps.refl _) (argsL := []) (rest := []) (lenOf pd_1 rfl) rfl (by show 2 * 0 + _ ≤ _; exact Nat.le_of_eq rfl) (hb hby at_92) (fun _ _ => ⟨rfl, rfl, (by decide : 4 + 0 ≤ _), (by decide : 16 + 0 ≤ _)⟩)
  dsimp only [Pt.U, Pt.locs, Pt.cells, Pt.slots] at X60 l60 y60 z60 st60 hQ60
  subst l60 y60 z60
  obtain ⟨rfl, N60q, K60q, f61, f62, f63, f64, f65, f66, f67, f68⟩ := hQ60
  have N60 := Fr.app N44 N60q
  have f69 := f45.keep K60q
  have f70 := f52.keep K60q (own_niS (Ne.symm r7) (own_niS (Ne.symm r8) (own_niS (Ne.symm ne_b1_b30_2) own_ni0)))
  have K60 : Keep h0 T60.heap [] := K44.trans K60q (own_allS (Or.inr sz_b2_2) (own_allS (Or.inr sz_b15_2) (own_allS (Or.inr sz_b1) own_all0)))
  have Zs60 := Nat.le_trans Zs44 K60q.1
  obtain ⟨cq71, kq71, q71a, q71b, q71c⟩ := isOf hZ rfl f61
  obtain ⟨_, _, ⟨T71, L71, k71, n71⟩, -, X71, ⟨Lc71, hQ71, l71, y71, z71⟩, st71⟩ := X60.virtualBack hx (y := (⟨"com/example/leeway/leeway/lp/SparseColumn", "values", "()[D"⟩ : MethodName)) (z := (⟨"com/example/leeway/leeway/lp/SparseColumn", "values", "()[D"⟩ : MethodName)) hown (mvT hZ (hw _ (List.mem_of_getElem? (i := 25) rfl))) (mvT hZ (hw _ (List.mem_of_getElem? (i := 26) rfl))) (notFace_of_selects (args := #[]) (mvT hZ (hw _ (List.mem_of_getElem? (i := 28) rfl)))) (mvT hZ (hw _ (List.mem_of_getElem? (i := 28) rfl))) (mvT hZ (hw _ (List.mem_of_getElem? (i := 27) rfl))) (by decide) (backOf (W := 0) (gv l Z a0 hw [] b1 b2_2 b15_2 b30_2 k2_2 k15_2 k30_2 i1 (0 : Int32) (0 : Int32) (0 : Int32) ([(.double (0 : UInt64)), (.double (0 : UInt64)), (.double (0 : UInt64)), (.double (0 : UInt64))] : List Value) ([(.int (0 : Int32)), (.int (0 : Int32)), (.int (0 : Int32)), (.int (0 : Int32))] : List Value) (0 : Int32) T60.heap n0 Zs60 f62 f63 f64 f65 f61 f66 f67 f68) hZ (hw _ (List.mem_of_getElem? (i := 29) rfl)) (hw _ (List.mem_of_getElem? (i := 2) rfl)) (by decide) (by decide)) q71a q71c (g := (mkF m 97 #[.val (.int p0), .val (.int p1), .val (.int p2), .val (.int p3), .val (.int p4), .val (.int (3 : Int32)), .val (.int i1), .val (.int i2), .val (.int i3), .val (.int i4), .val (.ref b1), .unset, .unset] [(.ref b1)])) rfl (by rw [hml]; rfl) (Steps.refl _) (argsL := []) (rest := []) (lenOf pd_2 rfl) rfl (by show 2 * 0 + _ ≤ _; exact Nat.le_of_eq rfl) (hb hby at_97) (fun _ _ => ⟨rfl, rfl, (by decide : 4 + 0 ≤ _), (by decide : 16 + 0 ≤ _)⟩)
  dsimp only [Pt.U, Pt.locs, Pt.cells, Pt.slots] at X71 l71 y71 z71 st71 hQ71
  subst l71 y71 z71
  obtain ⟨rfl, N71q, eh71⟩ := hQ71
  have N71 := Fr.app N60 N71q
  have e71 : T71.heap = T60.heap := eh71
  obtain ⟨cq72, kq72, q72a, q72b, q72c⟩ := isOf hZ e71 f61
  obtain ⟨_, _, ⟨T72, L72, k72, n72⟩, -, X72, ⟨Lc72, hQ72, l72, y72, z72⟩, st72⟩ := X71.virtualBack hx (y := (⟨"com/example/leeway/leeway/lp/SparseColumn", "count", "()I"⟩ : MethodName)) (z := (⟨"com/example/leeway/leeway/lp/SparseColumn", "count", "()I"⟩ : MethodName)) hown (mvT hZ (hw _ (List.mem_of_getElem? (i := 30) rfl))) (mvT hZ (hw _ (List.mem_of_getElem? (i := 31) rfl))) (notFace_of_selects (args := #[]) (mvT hZ (hw _ (List.mem_of_getElem? (i := 33) rfl)))) (mvT hZ (hw _ (List.mem_of_getElem? (i := 33) rfl))) (mvT hZ (hw _ (List.mem_of_getElem? (i := 32) rfl))) (by decide) (backOf (W := 0) (gc l Z a0 hw [] b1 b2_2 b15_2 b30_2 k2_2 k15_2 k30_2 i1 (0 : Int32) (0 : Int32) (0 : Int32) ([(.double (0 : UInt64)), (.double (0 : UInt64)), (.double (0 : UInt64)), (.double (0 : UInt64))] : List Value) ([(.int (0 : Int32)), (.int (0 : Int32)), (.int (0 : Int32)), (.int (0 : Int32))] : List Value) (0 : Int32) T60.heap n0 Zs60 f62 f63 f64 f65 f61 f66 f67 f68) hZ (hw _ (List.mem_of_getElem? (i := 34) rfl)) (hw _ (List.mem_of_getElem? (i := 2) rfl)) (by decide) (by decide)) q72a q72c (g := (mkF m 104 #[.val (.int p0), .val (.int p1), .val (.int p2), .val (.int p3), .val (.int p4), .val (.int (3 : Int32)), .val (.int i1), .val (.int i2), .val (.int i3), .val (.int i4), .val (.ref b1), .val (.ref b2_2), .unset] [(.ref b1)])) rfl (by rw [hml]; rfl) (Steps.refl _) (argsL := []) (rest := []) (lenOf pd_3 rfl) rfl (by show 2 * 0 + _ ≤ _; exact Nat.le_of_eq rfl) (hb hby at_104) (fun _ _ => ⟨rfl, e71, (by decide : 4 + 0 ≤ _), (by decide : 16 + 0 ≤ _)⟩)
  dsimp only [Pt.U, Pt.locs, Pt.cells, Pt.slots] at X72 l72 y72 z72 st72 hQ72
  subst l72 y72 z72
  obtain ⟨rfl, N72q, eh72⟩ := hQ72
  have N72 := Fr.app N71 N72q
  have e72 : T72.heap = T60.heap := eh72
  obtain ⟨cq73, Arq73, -, Sq73, -, Hq73, -⟩ := id f66
  obtain ⟨cq74, Arq74, -, Sq74, -, Hq74, -⟩ := id f66
  obtain ⟨cq75, Arq75, -, Sq75, -, Hq75, -⟩ := id f66
  obtain ⟨cq76, Arq76, -, Sq76, -, Hq76, -⟩ := id f66
  obtain ⟨cq77, kq77, q77a, q77b, q77c⟩ := isOf hZ e72 f61
  obtain ⟨_, _, ⟨T77, L77, k77, n77⟩, -, X77, ⟨Lc77, hQ77, l77, y77, z77⟩, st77⟩ := X72.virtualBack hx (y := (⟨"com/example/leeway/leeway/lp/SparseColumn", "add", "(ID)V"⟩ : MethodName)) (z := (⟨"com/example/leeway/leeway/lp/SparseColumn", "add", "(ID)V"⟩ : MethodName)) hown (mvT hZ (hw _ (List.mem_of_getElem? (i := 35) rfl))) (mvT hZ (hw _ (List.mem_of_getElem? (i := 36) rfl))) (notFace_of_selects (args := #[]) (mvT hZ (hw _ (List.mem_of_getElem? (i := 38) rfl)))) (mvT hZ (hw _ (List.mem_of_getElem? (i := 38) rfl))) (mvT hZ (hw _ (List.mem_of_getElem? (i := 37) rfl))) (by decide) (backOf (W := 0) (addN0 l Z a0 hw [] b1 b2_2 b15_2 b30_2 k2_2 k15_2 k30_2 i1 (0 : Int32) (0 : Int32) (0 : Int32) ([(.double (0 : UInt64)), (.double (0 : UInt64)), (.double (0 : UInt64)), (.double (0 : UInt64))] : List Value) ([(.int (0 : Int32)), (.int (0 : Int32)), (.int (0 : Int32)), (.int (0 : Int32))] : List Value) U9 M9 i4 (FP.i2d p4) (0 : UInt64) y9 T60.heap n0 Zs60 f62 f63 f64 f65 f61 f66 f67 f68 g_b1 g_b2_2 g_b15_2 g_b30_2 ne_b1_b2_2 ne_b1_b15_2 ne_b1_b30_2 r6 r7 r8 hix_160 hrl_160 hrv_160 hvl_160 hll_160 hls_160 hvs_160 nn41_160 hq41_160) hZ (hw _ (List.mem_of_getElem? (i := 39) rfl)) (hw _ (List.mem_of_getElem? (i := 2) rfl)) (by decide) (by decide)) q77a q77c (g := (mkF m 160 #[.val (.int p0), .val (.int p1), .val (.int p2), .val (.int p3), .val (.int p4), .val (.int (3 : Int32)), .val (.int i1), .val (.int i2), .val (.int i3), .val (.int i4), .val (.ref b1), .val (.ref b2_2), .val (.int (1 : Int32))] [(.double (FP.i2d p4)), (.int i4), (.ref b1)])) rfl (by rw [hml]; rfl) (Steps.refl _) (argsL := [(.int i4), (.double (FP.i2d p4))]) (rest := []) (lenOf pd_4 rfl) rfl (by show 2 * 0 + _ ≤ _; exact Nat.le_of_eq rfl) (hb hby at_160) (fun _ _ => ⟨rfl, e72, (by decide : 4 + 0 ≤ _), (by decide : 16 + 0 ≤ _)⟩)
  dsimp only [Pt.U, Pt.locs, Pt.cells, Pt.slots] at X77 l77 y77 z77 st77 hQ77
  subst l77 y77 z77
  obtain ⟨rfl, N77q, K77q, f78, f79, f80, f81, f82, f83, f84, f85⟩ := hQ77
  have N77 := Fr.app N72 N77q
  have f86 := f61.keep K77q
  have K77 : Keep h0 T77.heap [] := K60.trans K77q (own_allS (Or.inr sz_b15_2) (own_allS (Or.inr sz_b1) (own_allS (Or.inr sz_b30_2) (own_allS (Or.inr sz_b2_2) own_all0))))
  have Zs77 := Nat.le_trans Zs60 K77q.1
  obtain ⟨cq87, kq87, q87a, q87b, q87c⟩ := isOf hZ rfl f78
  obtain ⟨_, _, ⟨T87, L87, k87, n87⟩, -, X87, ⟨Lc87, hQ87, l87, y87, z87⟩, st87⟩ := X77.virtualBack hx (y := (⟨"com/example/leeway/leeway/lp/SparseColumn", "values", "()[D"⟩ : MethodName)) (z := (⟨"com/example/leeway/leeway/lp/SparseColumn", "values", "()[D"⟩ : MethodName)) hown (mvT hZ (hw _ (List.mem_of_getElem? (i := 25) rfl))) (mvT hZ (hw _ (List.mem_of_getElem? (i := 26) rfl))) (notFace_of_selects (args := #[]) (mvT hZ (hw _ (List.mem_of_getElem? (i := 28) rfl)))) (mvT hZ (hw _ (List.mem_of_getElem? (i := 28) rfl))) (mvT hZ (hw _ (List.mem_of_getElem? (i := 27) rfl))) (by decide) (backOf (W := 0) (gv l Z a0 hw [] b1 b2_2 b15_2 b30_2 k2_2 k15_2 k30_2 i4 (0 : Int32) (0 : Int32) (0 : Int32) U9 M9 (1 : Int32) T77.heap n0 Zs77 f79 f80 f81 f82 f78 f83 f84 f85) hZ (hw _ (List.mem_of_getElem? (i := 29) rfl)) (hw _ (List.mem_of_getElem? (i := 2) rfl)) (by decide) (by decide)) q87a q87c (g := (mkF m 165 #[.val (.int p0), .val (.int p1), .val (.int p2), .val (.int p3), .val (.int p4), .val (.int (3 : Int32)), .val (.int i1), .val (.int i2), .val (.int i3), .val (.int i4), .val (.ref b1), .val (.ref b2_2), .val (.int (1 : Int32))] [(.ref b1)])) rfl (by rw [hml]; rfl) (Steps.refl _) (argsL := []) (rest := []) (lenOf pd_2 rfl) rfl (by show 2 * 0 + _ ≤ _; exact Nat.le_of_eq rfl) (hb hby at_165) (fun _ _ => ⟨rfl, rfl, (by decide : 4 + 0 ≤ _), (by decide : 16 + 0 ≤ _)⟩)
  dsimp only [Pt.U, Pt.locs, Pt.cells, Pt.slots] at X87 l87 y87 z87 st87 hQ87
  subst l87 y87 z87
  obtain ⟨rfl, N87q, eh87⟩ := hQ87
  have N87 := Fr.app N77 N87q
  have e87 : T87.heap = T77.heap := eh87
  obtain ⟨cq88, kq88, q88a, q88b, q88c⟩ := isOf hZ e87 f78
  obtain ⟨_, _, ⟨T88, L88, k88, n88⟩, -, X88, ⟨Lc88, hQ88, l88, y88, z88⟩, st88⟩ := X87.virtualBack hx (y := (⟨"com/example/leeway/leeway/lp/SparseColumn", "count", "()I"⟩ : MethodName)) (z := (⟨"com/example/leeway/leeway/lp/SparseColumn", "count", "()I"⟩ : MethodName)) hown (mvT hZ (hw _ (List.mem_of_getElem? (i := 30) rfl))) (mvT hZ (hw _ (List.mem_of_getElem? (i := 31) rfl))) (notFace_of_selects (args := #[]) (mvT hZ (hw _ (List.mem_of_getElem? (i := 33) rfl)))) (mvT hZ (hw _ (List.mem_of_getElem? (i := 33) rfl))) (mvT hZ (hw _ (List.mem_of_getElem? (i := 32) rfl))) (by decide) (backOf (W := 0) (gc l Z a0 hw [] b1 b2_2 b15_2 b30_2 k2_2 k15_2 k30_2 i4 (0 : Int32) (0 : Int32) (0 : Int32) U9 M9 (1 : Int32) T77.heap n0 Zs77 f79 f80 f81 f82 f78 f83 f84 f85) hZ (hw _ (List.mem_of_getElem? (i := 34) rfl)) (hw _ (List.mem_of_getElem? (i := 2) rfl)) (by decide) (by decide)) q88a q88c (g := (mkF m 177 #[.val (.int p0), .val (.int p1), .val (.int p2), .val (.int p3), .val (.int p4), .val (.int (3 : Int32)), .val (.int i1), .val (.int i2), .val (.int i3), .val (.int i4), .val (.ref b1), .val (.ref b2_2), .val (.int (1 : Int32))] [(.ref b1)])) rfl (by rw [hml]; rfl) (Steps.refl _) (argsL := []) (rest := []) (lenOf pd_3 rfl) rfl (by show 2 * 0 + _ ≤ _; exact Nat.le_of_eq rfl) (hb hby at_177) (fun _ _ => ⟨rfl, e87, (by decide : 4 + 0 ≤ _), (by decide : 16 + 0 ≤ _)⟩)
  dsimp only [Pt.U, Pt.locs, Pt.cells, Pt.slots] at X88 l88 y88 z88 st88 hQ88
  subst l88 y88 z88
  obtain ⟨rfl, N88q, eh88⟩ := hQ88
  have N88 := Fr.app N87 N88q
  have e88 : T88.heap = T77.heap := eh88
  obtain ⟨cq89, kq89, q89a, q89b, q89c⟩ := isOf hZ e88 f78
  obtain ⟨_, _, ⟨T89, L89, k89, n89⟩, -, X89, ⟨Lc89, hQ89, l89, y89, z89⟩, st89⟩ := X88.virtualBack hx (y := (⟨"com/example/leeway/leeway/lp/SparseColumn", "rows", "()[I"⟩ : MethodName)) (z := (⟨"com/example/leeway/leeway/lp/SparseColumn", "rows", "()[I"⟩ : MethodName)) hown (mvT hZ (hw _ (List.mem_of_getElem? (i := 40) rfl))) (mvT hZ (hw _ (List.mem_of_getElem? (i := 41) rfl))) (notFace_of_selects (args := #[]) (mvT hZ (hw _ (List.mem_of_getElem? (i := 43) rfl)))) (mvT hZ (hw _ (List.mem_of_getElem? (i := 43) rfl))) (mvT hZ (hw _ (List.mem_of_getElem? (i := 42) rfl))) (by decide) (backOf (W := 0) (gr l Z a0 hw [] b1 b2_2 b15_2 b30_2 k2_2 k15_2 k30_2 i4 (0 : Int32) (0 : Int32) (0 : Int32) U9 M9 (1 : Int32) T77.heap n0 Zs77 f79 f80 f81 f82 f78 f83 f84 f85) hZ (hw _ (List.mem_of_getElem? (i := 44) rfl)) (hw _ (List.mem_of_getElem? (i := 2) rfl)) (by decide) (by decide)) q89a q89c (g := (mkF m 186 #[.val (.int p0), .val (.int p1), .val (.int p2), .val (.int p3), .val (.int p4), .val (.int (3 : Int32)), .val (.int i1), .val (.int i2), .val (.int i3), .val (.int i4), .val (.ref b1), .val (.ref b2_2), .val (.int (1 : Int32))] [(.ref b1)])) rfl (by rw [hml]; rfl) (Steps.refl _) (argsL := []) (rest := []) (lenOf pd_5 rfl) rfl (by show 2 * 0 + _ ≤ _; exact Nat.le_of_eq rfl) (hb hby at_186) (fun _ _ => ⟨rfl, e88, (by decide : 4 + 0 ≤ _), (by decide : 16 + 0 ≤ _)⟩)
  dsimp only [Pt.U, Pt.locs, Pt.cells, Pt.slots] at X89 l89 y89 z89 st89 hQ89
  subst l89 y89 z89
  obtain ⟨rfl, N89q, eh89⟩ := hQ89
  have N89 := Fr.app N88 N89q
  have e89 : T89.heap = T77.heap := eh89
  obtain ⟨cq90, Arq90, -, Sq90, -, Hq90, -⟩ := id f85
  obtain ⟨cq91, Arq91, -, Sq91, -, Hq91, -⟩ := id f83
  obtain ⟨_, _, ⟨T92, L92, k92, n92⟩, -, X92, ⟨Lc92, hQ92, l92, y92, z92⟩, st92⟩ := Jvm.LawKit.callS X89 hx (y := (⟨"com/example/leeway/leeway/lp/SparseColumnClearPinLaw", "zeroUnless", "([DII)Z"⟩ : MethodName)) hown (mvT hZ (hw _ (List.mem_of_getElem? (i := 45) rfl))) (mvT hZ (hw _ (List.mem_of_getElem? (i := 46) rfl))) (mvT hZ (hw _ (List.mem_of_getElem? (i := 47) rfl))) (mvT hZ (hw _ (List.mem_of_getElem? (i := 48) rfl))) (by decide) (backOf (W := 0) (zu l Z a0 hw [] b2_2 k2_2 U9 (0 : Int32) i4 T77.heap n0 Zs77 f83 hix_225 hrd_225 hd9_225) hZ (hw _ (List.mem_of_getElem? (i := 48) rfl)) (hw _ (List.mem_of_getElem? (i := 47) rfl)) (by decide) (by decide)) (g := (mkF m 225 #[.val (.int p0), .val (.int p1), .val (.int p2), .val (.int p3), .val (.int p4), .val (.int (3 : Int32)), .val (.int i1), .val (.int i2), .val (.int i3), .val (.int i4), .val (.ref b1), .val (.ref b2_2), .val (.int (1 : Int32))] [(.int i4), (.int (0 : Int32)), (.ref b2_2)])) rfl (by rw [hml]; rfl) (argsL := [(.ref b2_2), (.int (0 : Int32)), (.int i4)]) (rest := []) (lenOf pd_6 rfl) rfl (by show 2 * 0 + _ ≤ _; exact Nat.le_of_eq rfl) (hb hby at_225) (fun _ _ => ⟨rfl, e89, (by decide : 4 + 0 ≤ _), (by decide : 16 + 0 ≤ _)⟩)
  dsimp only [Pt.U, Pt.locs, Pt.cells, Pt.slots] at X92 l92 y92 z92 st92 hQ92
  subst l92 y92 z92
  obtain ⟨rfl, N92q, eh92⟩ := hQ92
  have N92 := Fr.app N89 N92q
  have e92 : T92.heap = T77.heap := eh92
  obtain ⟨_, _, ⟨T93, L93, k93, n93⟩, -, X93, ⟨Lc93, hQ93, l93, y93, z93⟩, st93⟩ := Jvm.LawKit.callS X92 hx (y := (⟨"com/example/leeway/leeway/lp/SparseColumnClearPinLaw", "zeroUnless", "([DII)Z"⟩ : MethodName)) hown (mvT hZ (hw _ (List.mem_of_getElem? (i := 45) rfl))) (mvT hZ (hw _ (List.mem_of_getElem? (i := 46) rfl))) (mvT hZ (hw _ (List.mem_of_getElem? (i := 47) rfl))) (mvT hZ (hw _ (List.mem_of_getElem? (i := 48) rfl))) (by decide) (backOf (W := 0) (zu l Z a0 hw [] b2_2 k2_2 U9 (1 : Int32) i4 T77.heap n0 Zs77 f83 hix_236 hrd_236 hd9_236) hZ (hw _ (List.mem_of_getElem? (i := 48) rfl)) (hw _ (List.mem_of_getElem? (i := 47) rfl)) (by decide) (by decide)) (g := (mkF m 236 #[.val (.int p0), .val (.int p1), .val (.int p2), .val (.int p3), .val (.int p4), .val (.int (3 : Int32)), .val (.int i1), .val (.int i2), .val (.int i3), .val (.int i4), .val (.ref b1), .val (.ref b2_2), .val (.int (1 : Int32))] [(.int i4), (.int (1 : Int32)), (.ref b2_2)])) rfl (by rw [hml]; rfl) (argsL := [(.ref b2_2), (.int (1 : Int32)), (.int i4)]) (rest := []) (lenOf pd_6 rfl) rfl (by show 2 * 0 + _ ≤ _; exact Nat.le_of_eq rfl) (hb hby at_236) (fun _ _ => ⟨rfl, e92, (by decide : 4 + 0 ≤ _), (by decide : 16 + 0 ≤ _)⟩)
  dsimp only [Pt.U, Pt.locs, Pt.cells, Pt.slots] at X93 l93 y93 z93 st93 hQ93
  subst l93 y93 z93
  obtain ⟨rfl, N93q, eh93⟩ := hQ93
  have N93 := Fr.app N92 N93q
  have e93 : T93.heap = T77.heap := eh93
  obtain ⟨_, _, ⟨T94, L94, k94, n94⟩, -, X94, ⟨Lc94, hQ94, l94, y94, z94⟩, st94⟩ := Jvm.LawKit.callS X93 hx (y := (⟨"com/example/leeway/leeway/lp/SparseColumnClearPinLaw", "zeroUnless", "([DII)Z"⟩ : MethodName)) hown (mvT hZ (hw _ (List.mem_of_getElem? (i := 45) rfl))) (mvT hZ (hw _ (List.mem_of_getElem? (i := 46) rfl))) (mvT hZ (hw _ (List.mem_of_getElem? (i := 47) rfl))) (mvT hZ (hw _ (List.mem_of_getElem? (i := 48) rfl))) (by decide) (backOf (W := 0) (zu l Z a0 hw [] b2_2 k2_2 U9 (2 : Int32) i4 T77.heap n0 Zs77 f83 hix_247 hrd_247 hd9_247) hZ (hw _ (List.mem_of_getElem? (i := 48) rfl)) (hw _ (List.mem_of_getElem? (i := 47) rfl)) (by decide) (by decide)) (g := (mkF m 247 #[.val (.int p0), .val (.int p1), .val (.int p2), .val (.int p3), .val (.int p4), .val (.int (3 : Int32)), .val (.int i1), .val (.int i2), .val (.int i3), .val (.int i4), .val (.ref b1), .val (.ref b2_2), .val (.int (1 : Int32))] [(.int i4), (.int (2 : Int32)), (.ref b2_2)])) rfl (by rw [hml]; rfl) (argsL := [(.ref b2_2), (.int (2 : Int32)), (.int i4)]) (rest := []) (lenOf pd_6 rfl) rfl (by show 2 * 0 + _ ≤ _; exact Nat.le_of_eq rfl) (hb hby at_247) (fun _ _ => ⟨rfl, e93, (by decide : 4 + 0 ≤ _), (by decide : 16 + 0 ≤ _)⟩)
  dsimp only [Pt.U, Pt.locs, Pt.cells, Pt.slots] at X94 l94 y94 z94 st94 hQ94
  subst l94 y94 z94
  obtain ⟨rfl, N94q, eh94⟩ := hQ94
  have N94 := Fr.app N93 N94q
  have e94 : T94.heap = T77.heap := eh94
  obtain ⟨_, _, ⟨T95, L95, k95, n95⟩, -, X95, ⟨Lc95, hQ95, l95, y95, z95⟩, st95⟩ := Jvm.LawKit.callS X94 hx (y := (⟨"com/example/leeway/leeway/lp/SparseColumnClearPinLaw", "zeroUnless", "([DII)Z"⟩ : MethodName)) hown (mvT hZ (hw _ (List.mem_of_getElem? (i := 45) rfl))) (mvT hZ (hw _ (List.mem_of_getElem? (i := 46) rfl))) (mvT hZ (hw _ (List.mem_of_getElem? (i := 47) rfl))) (mvT hZ (hw _ (List.mem_of_getElem? (i := 48) rfl))) (by decide) (backOf (W := 0) (zu l Z a0 hw [] b2_2 k2_2 U9 (3 : Int32) i4 T77.heap n0 Zs77 f83 hix_258 hrd_258 hd9_258) hZ (hw _ (List.mem_of_getElem? (i := 48) rfl)) (hw _ (List.mem_of_getElem? (i := 47) rfl)) (by decide) (by decide)) (g := (mkF m 258 #[.val (.int p0), .val (.int p1), .val (.int p2), .val (.int p3), .val (.int p4), .val (.int (3 : Int32)), .val (.int i1), .val (.int i2), .val (.int i3), .val (.int i4), .val (.ref b1), .val (.ref b2_2), .val (.int (1 : Int32))] [(.int i4), (.int (3 : Int32)), (.ref b2_2)])) rfl (by rw [hml]; rfl) (argsL := [(.ref b2_2), (.int (3 : Int32)), (.int i4)]) (rest := []) (lenOf pd_6 rfl) rfl (by show 2 * 0 + _ ≤ _; exact Nat.le_of_eq rfl) (hb hby at_258) (fun _ _ => ⟨rfl, e94, (by decide : 4 + 0 ≤ _), (by decide : 16 + 0 ≤ _)⟩)
  dsimp only [Pt.U, Pt.locs, Pt.cells, Pt.slots] at X95 l95 y95 z95 st95 hQ95
  subst l95 y95 z95
  obtain ⟨rfl, N95q, eh95⟩ := hQ95
  have N95 := Fr.app N94 N95q
  have e95 : T95.heap = T77.heap := eh95
  obtain ⟨fs, hr, hrun, hended, hW, hsame⟩ := X95.leave (v := some (.int (1 : Int32))) (fun h => by rw [Bd.returns] at h; cases h)
  refine ⟨_, _, pre0 _ ?_, hrun, hended, _, _, rfl, ?_, ⟨_, rfl⟩, hW, hsame.mono (by decide) (by decide)⟩
  · show Steps p.tables e below (s₁.setTop (mkF m 0 #[.val (.int p0), .val (.int p1), .val (.int p2), .val (.int p3), .val (.int p4), .unset, .unset, .unset, .unset, .unset, .unset, .unset, .unset] [])) _
    refine XS.iloadN X0.here hx rfl (hb hby at_0) rfl ?_
    refine XS.iconst X0.here hx rfl (hb hby at_1) ?_
    refine XS.iand X0.here hx rfl (hb hby at_2) rfl ?_
    show Steps p.tables e below (s₁.setTop (mkF m 3 #[.val (.int p0), .val (.int p1), .val (.int p2), .val (.int p3), .val (.int p4), .unset, .unset, .unset, .unset, .unset, .unset, .unset, .unset] [(.int (p0 &&& (3 : Int32)))])) _
    rw [hv2]
    show Steps p.tables e below (s₁.setTop (mkF m 3 #[.val (.int p0), .val (.int p1), .val (.int p2), .val (.int p3), .val (.int p4), .unset, .unset, .unset, .unset, .unset, .unset, .unset, .unset] [(.int (3 : Int32))])) _
    refine XS.istore X0.here hx rfl (hb hby at_3) rfl (l' := #[.val (.int p0), .val (.int p1), .val (.int p2), .val (.int p3), .val (.int p4), .val (.int (3 : Int32)), .unset, .unset, .unset, .unset, .unset, .unset, .unset]) rfl ?_
    show Steps p.tables e below (s₁.setTop (mkF m 5 #[.val (.int p0), .val (.int p1), .val (.int p2), .val (.int p3), .val (.int p4), .val (.int (3 : Int32)), .unset, .unset, .unset, .unset, .unset, .unset, .unset] [])) _
    refine XS.iloadN X0.here hx rfl (hb hby at_5) rfl ?_
    refine XS.iconst X0.here hx rfl (hb hby at_6) ?_
    refine XS.iushr X0.here hx rfl (hb hby at_7) rfl ?_
    refine XS.iconst X0.here hx rfl (hb hby at_8) ?_
    refine XS.iand X0.here hx rfl (hb hby at_9) rfl ?_
    show Steps p.tables e below (s₁.setTop (mkF m 10 #[.val (.int p0), .val (.int p1), .val (.int p2), .val (.int p3), .val (.int p4), .val (.int (3 : Int32)), .unset, .unset, .unset, .unset, .unset, .unset, .unset] [(.int (((p0.toUInt32 >>> ((2 : Int32) &&& 31).toUInt32).toInt32) &&& (3 : Int32)))])) _
    rw [hv9]
    show Steps p.tables e below (s₁.setTop (mkF m 10 #[.val (.int p0), .val (.int p1), .val (.int p2), .val (.int p3), .val (.int p4), .val (.int (3 : Int32)), .unset, .unset, .unset, .unset, .unset, .unset, .unset] [(.int i1)])) _
    refine XS.istore X0.here hx rfl (hb hby at_10) rfl (l' := #[.val (.int p0), .val (.int p1), .val (.int p2), .val (.int p3), .val (.int p4), .val (.int (3 : Int32)), .val (.int i1), .unset, .unset, .unset, .unset, .unset, .unset]) rfl ?_
    refine XS.iloadN X0.here hx rfl (hb hby at_12) rfl ?_
    refine XS.iconst X0.here hx rfl (hb hby at_13) ?_
    refine XS.iushr X0.here hx rfl (hb hby at_14) rfl ?_
    refine XS.iconst X0.here hx rfl (hb hby at_15) ?_
    refine XS.iand X0.here hx rfl (hb hby at_16) rfl ?_
    show Steps p.tables e below (s₁.setTop (mkF m 17 #[.val (.int p0), .val (.int p1), .val (.int p2), .val (.int p3), .val (.int p4), .val (.int (3 : Int32)), .val (.int i1), .unset, .unset, .unset, .unset, .unset, .unset] [(.int (((p0.toUInt32 >>> ((4 : Int32) &&& 31).toUInt32).toInt32) &&& (3 : Int32)))])) _
    rw [hv16]
    show Steps p.tables e below (s₁.setTop (mkF m 17 #[.val (.int p0), .val (.int p1), .val (.int p2), .val (.int p3), .val (.int p4), .val (.int (3 : Int32)), .val (.int i1), .unset, .unset, .unset, .unset, .unset, .unset] [(.int i2)])) _
    refine XS.istore X0.here hx rfl (hb hby at_17) rfl (l' := #[.val (.int p0), .val (.int p1), .val (.int p2), .val (.int p3), .val (.int p4), .val (.int (3 : Int32)), .val (.int i1), .val (.int i2), .unset, .unset, .unset, .unset, .unset]) rfl ?_
    refine XS.iloadN X0.here hx rfl (hb hby at_19) rfl ?_
    refine XS.bipush X0.here hx rfl (hb hby at_20) ?_
    refine XS.iushr X0.here hx rfl (hb hby at_22) rfl ?_
    refine XS.iconst X0.here hx rfl (hb hby at_23) ?_
    show Steps p.tables e below (s₁.setTop (mkF m 24 #[.val (.int p0), .val (.int p1), .val (.int p2), .val (.int p3), .val (.int p4), .val (.int (3 : Int32)), .val (.int i1), .val (.int i2), .unset, .unset, .unset, .unset, .unset] [(.int (3 : Int32)), (.int ((p0.toUInt32 >>> ((6 : Int32) &&& 31).toUInt32).toInt32))])) _
    refine XS.iand X0.here hx rfl (hb hby at_24) rfl ?_
    show Steps p.tables e below (s₁.setTop (mkF m 25 #[.val (.int p0), .val (.int p1), .val (.int p2), .val (.int p3), .val (.int p4), .val (.int (3 : Int32)), .val (.int i1), .val (.int i2), .unset, .unset, .unset, .unset, .unset] [(.int (((p0.toUInt32 >>> ((6 : Int32) &&& 31).toUInt32).toInt32) &&& (3 : Int32)))])) _
    rw [hv24]
    show Steps p.tables e below (s₁.setTop (mkF m 25 #[.val (.int p0), .val (.int p1), .val (.int p2), .val (.int p3), .val (.int p4), .val (.int (3 : Int32)), .val (.int i1), .val (.int i2), .unset, .unset, .unset, .unset, .unset] [(.int i3)])) _
    refine XS.istore X0.here hx rfl (hb hby at_25) rfl (l' := #[.val (.int p0), .val (.int p1), .val (.int p2), .val (.int p3), .val (.int p4), .val (.int (3 : Int32)), .val (.int i1), .val (.int i2), .val (.int i3), .unset, .unset, .unset, .unset]) rfl ?_
    refine XS.iloadN X0.here hx rfl (hb hby at_27) rfl ?_
    refine XS.bipush X0.here hx rfl (hb hby at_28) ?_
    refine XS.iushr X0.here hx rfl (hb hby at_30) rfl ?_
    show Steps p.tables e below (s₁.setTop (mkF m 31 #[.val (.int p0), .val (.int p1), .val (.int p2), .val (.int p3), .val (.int p4), .val (.int (3 : Int32)), .val (.int i1), .val (.int i2), .val (.int i3), .unset, .unset, .unset, .unset] [(.int ((p0.toUInt32 >>> ((8 : Int32) &&& 31).toUInt32).toInt32))])) _
    refine XS.iconst X0.here hx rfl (hb hby at_31) ?_
    refine XS.iand X0.here hx rfl (hb hby at_32) rfl ?_
    show Steps p.tables e below (s₁.setTop (mkF m 33 #[.val (.int p0), .val (.int p1), .val (.int p2), .val (.int p3), .val (.int p4), .val (.int (3 : Int32)), .val (.int i1), .val (.int i2), .val (.int i3), .unset, .unset, .unset, .unset] [(.int (((p0.toUInt32 >>> ((8 : Int32) &&& 31).toUInt32).toInt32) &&& (3 : Int32)))])) _
    rw [hv32]
    show Steps p.tables e below (s₁.setTop (mkF m 33 #[.val (.int p0), .val (.int p1), .val (.int p2), .val (.int p3), .val (.int p4), .val (.int (3 : Int32)), .val (.int i1), .val (.int i2), .val (.int i3), .unset, .unset, .unset, .unset] [(.int i4)])) _
    refine XS.istore X0.here hx rfl (hb hby at_33) rfl (l' := #[.val (.int p0), .val (.int p1), .val (.int p2), .val (.int p3), .val (.int p4), .val (.int (3 : Int32)), .val (.int i1), .val (.int i2), .val (.int i3), .val (.int i4), .unset, .unset, .unset]) rfl ?_
    refine st1 _ ?_
    show Steps p.tables e below (T1.setTop (mkF m 38 #[.val (.int p0), .val (.int p1), .val (.int p2), .val (.int p3), .val (.int p4), .val (.int (3 : Int32)), .val (.int i1), .val (.int i2), .val (.int i3), .val (.int i4), .unset, .unset, .unset] [(.ref b1)])) _
    refine XS.dup X1.here hx rfl (hb hby at_38) rfl rfl ?_
    show Steps p.tables e below (T1.setTop (mkF m 39 #[.val (.int p0), .val (.int p1), .val (.int p2), .val (.int p3), .val (.int p4), .val (.int (3 : Int32)), .val (.int i1), .val (.int i2), .val (.int i3), .val (.int i4), .unset, .unset, .unset] [(.ref b1), (.ref b1)])) _
    refine XS.iconst X1.here hx rfl (hb hby at_39) ?_
    refine st2.trans ?_
    show Steps p.tables e below (T2.setTop (mkF m 43 #[.val (.int p0), .val (.int p1), .val (.int p2), .val (.int p3), .val (.int p4), .val (.int (3 : Int32)), .val (.int i1), .val (.int i2), .val (.int i3), .val (.int i4), .unset, .unset, .unset] [(.ref b1)])) _
    refine XS.astore X2.here hx rfl (hb hby at_43) rfl rfl (l' := #[.val (.int p0), .val (.int p1), .val (.int p2), .val (.int p3), .val (.int p4), .val (.int (3 : Int32)), .val (.int i1), .val (.int i2), .val (.int i3), .val (.int i4), .val (.ref b1), .unset, .unset]) rfl ?_
    refine XS.iload X2.here hx rfl (hb hby at_45) rfl ?_
    refine XS.iconst X2.here hx rfl (hb hby at_47) ?_
    refine XS.icmpNo X2.here hx rfl (hb hby at_48) rfl (flt (by decide : ¬ ((3 : Int32) < (1 : Int32)))).1 ?_
    show Steps p.tables e below (T2.setTop (mkF m 51 #[.val (.int p0), .val (.int p1), .val (.int p2), .val (.int p3), .val (.int p4), .val (.int (3 : Int32)), .val (.int i1), .val (.int i2), .val (.int i3), .val (.int i4), .val (.ref b1), .unset, .unset] [])) _
    refine XS.aload X2.here hx rfl (hb hby at_51) rfl rfl ?_
    refine XS.iload X2.here hx rfl (hb hby at_53) rfl ?_
    refine XS.iloadN X2.here hx rfl (hb hby at_55) rfl ?_
    refine XS.i2dS X2.here hx rfl (hb hby at_56) rfl (v := (FP.i2d p1)) rfl ?_
    refine st18.trans ?_
    show Steps p.tables e below (T18.setTop (mkF m 60 #[.val (.int p0), .val (.int p1), .val (.int p2), .val (.int p3), .val (.int p4), .val (.int (3 : Int32)), .val (.int i1), .val (.int i2), .val (.int i3), .val (.int i4), .val (.ref b1), .unset, .unset] [])) _
    refine XS.iload X18.here hx rfl (hb hby at_60) rfl ?_
    show Steps p.tables e below (T18.setTop (mkF m 62 #[.val (.int p0), .val (.int p1), .val (.int p2), .val (.int p3), .val (.int p4), .val (.int (3 : Int32)), .val (.int i1), .val (.int i2), .val (.int i3), .val (.int i4), .val (.ref b1), .unset, .unset] [(.int (3 : Int32))])) _
    refine XS.iconst X18.here hx rfl (hb hby at_62) ?_
    refine XS.icmpNo X18.here hx rfl (hb hby at_63) rfl (flt (by decide : ¬ ((3 : Int32) < (2 : Int32)))).1 ?_
    refine XS.aload X18.here hx rfl (hb hby at_66) rfl rfl ?_
    refine XS.iload X18.here hx rfl (hb hby at_68) rfl ?_
    refine XS.iloadN X18.here hx rfl (hb hby at_70) rfl ?_
    refine XS.i2dS X18.here hx rfl (hb hby at_71) rfl (v := (FP.i2d p2)) rfl ?_
    show Steps p.tables e below (T18.setTop (mkF m 72 #[.val (.int p0), .val (.int p1), .val (.int p2), .val (.int p3), .val (.int p4), .val (.int (3 : Int32)), .val (.int i1), .val (.int i2), .val (.int i3), .val (.int i4), .val (.ref b1), .unset, .unset] [(.double (FP.i2d p2)), (.int i2), (.ref b1)])) _
    refine st28.trans ?_
    show Steps p.tables e below (T28.setTop (mkF m 75 #[.val (.int p0), .val (.int p1), .val (.int p2), .val (.int p3), .val (.int p4), .val (.int (3 : Int32)), .val (.int i1), .val (.int i2), .val (.int i3), .val (.int i4), .val (.ref b1), .unset, .unset] [])) _
    refine XS.iload X28.here hx rfl (hb hby at_75) rfl ?_
    refine XS.iconst X28.here hx rfl (hb hby at_77) ?_
    refine XS.icmpNo X28.here hx rfl (hb hby at_78) rfl (flt (by decide : ¬ ((3 : Int32) < (3 : Int32)))).1 ?_
    refine XS.aload X28.here hx rfl (hb hby at_81) rfl rfl ?_
    refine XS.iload X28.here hx rfl (hb hby at_83) rfl ?_
    show Steps p.tables e below (T28.setTop (mkF m 85 #[.val (.int p0), .val (.int p1), .val (.int p2), .val (.int p3), .val (.int p4), .val (.int (3 : Int32)), .val (.int i1), .val (.int i2), .val (.int i3), .val (.int i4), .val (.ref b1), .unset, .unset] [(.int i3), (.ref b1)])) _
    refine XS.iloadN X28.here hx rfl (hb hby at_85) rfl ?_
    refine XS.i2dS X28.here hx rfl (hb hby at_86) rfl (v := (FP.i2d p3)) rfl ?_
    refine st44.trans ?_
    show Steps p.tables e below (T44.setTop (mkF m 90 #[.val (.int p0), .val (.int p1), .val (.int p2), .val (.int p3), .val (.int p4), .val (.int (3 : Int32)), .val (.int i1), .val (.int i2), .val (.int i3), .val (.int i4), .val (.ref b1), .unset, .unset] [])) _
    refine XS.aload X44.here hx rfl (hb hby at_90) rfl rfl ?_
    refine st60.trans ?_
    show Steps p.tables e below (T60.setTop (mkF m 95 #[.val (.int p0), .val (.int p1), .val (.int p2), .val (.int p3), .val (.int p4), .val (.int (3 : Int32)), .val (.int i1), .val (.int i2), .val (.int i3), .val (.int i4), .val (.ref b1), .unset, .unset] [])) _
    refine XS.aload X60.here hx rfl (hb hby at_95) rfl rfl ?_
    show Steps p.tables e below (T60.setTop (mkF m 97 #[.val (.int p0), .val (.int p1), .val (.int p2), .val (.int p3), .val (.int p4), .val (.int (3 : Int32)), .val (.int i1), .val (.int i2), .val (.int i3), .val (.int i4), .val (.ref b1), .unset, .unset] [(.ref b1)])) _
    refine st71.trans ?_
    show Steps p.tables e below (T71.setTop (mkF m 100 #[.val (.int p0), .val (.int p1), .val (.int p2), .val (.int p3), .val (.int p4), .val (.int (3 : Int32)), .val (.int i1), .val (.int i2), .val (.int i3), .val (.int i4), .val (.ref b1), .unset, .unset] [(.ref b2_2)])) _
    refine XS.astore X71.here hx rfl (hb hby at_100) rfl rfl (l' := #[.val (.int p0), .val (.int p1), .val (.int p2), .val (.int p3), .val (.int p4), .val (.int (3 : Int32)), .val (.int i1), .val (.int i2), .val (.int i3), .val (.int i4), .val (.ref b1), .val (.ref b2_2), .unset]) rfl ?_
    refine XS.aload X71.here hx rfl (hb hby at_102) rfl rfl ?_
    refine st72.trans ?_
    show Steps p.tables e below (T72.setTop (mkF m 107 #[.val (.int p0), .val (.int p1), .val (.int p2), .val (.int p3), .val (.int p4), .val (.int (3 : Int32)), .val (.int i1), .val (.int i2), .val (.int i3), .val (.int i4), .val (.ref b1), .val (.ref b2_2), .unset] [(.int (0 : Int32))])) _
    refine XS.ifNo X72.here hx rfl (hb hby at_107) rfl ((if0 _ _).trans (teq (by decide : (0 : Int32) = (0 : Int32))).2) ?_
    refine XS.aload X72.here hx rfl (hb hby at_110) rfl rfl ?_
    show Steps p.tables e below (T72.setTop (mkF m 112 #[.val (.int p0), .val (.int p1), .val (.int p2), .val (.int p3), .val (.int p4), .val (.int (3 : Int32)), .val (.int i1), .val (.int i2), .val (.int i3), .val (.int i4), .val (.ref b1), .val (.ref b2_2), .unset] [(.ref b2_2)])) _
    refine XS.iconst X72.here hx rfl (hb hby at_112) ?_
    refine X72.daload hx (j := (0 : Int32)) (v := (.double (0 : UInt64))) (by rw [e72]; exact Arq73.1) (State.isArrayOf_alike hZ.alike Arq73.2.1) Arq73.2.2 (inb_of Sq73 ⟨by decide, by decide⟩) (Has.at Hq73 (inb_of Sq73 ⟨by decide, by decide⟩) rfl) (g := (mkF m 113 #[.val (.int p0), .val (.int p1), .val (.int p2), .val (.int p3), .val (.int p4), .val (.int (3 : Int32)), .val (.int i1), .val (.int i2), .val (.int i3), .val (.int i4), .val (.ref b1), .val (.ref b2_2), .unset] [(.int (0 : Int32)), (.ref b2_2)])) rfl rfl (hb hby at_113) _ ?_
    show Steps p.tables e below (T72.setTop (mkF m 114 #[.val (.int p0), .val (.int p1), .val (.int p2), .val (.int p3), .val (.int p4), .val (.int (3 : Int32)), .val (.int i1), .val (.int i2), .val (.int i3), .val (.int i4), .val (.ref b1), .val (.ref b2_2), .unset] [(.double (0 : UInt64))])) _
    refine XS.dconst0 X72.here hx rfl (hb hby at_114) (v := (0 : UInt64)) rfl ?_
    refine XS.dcmpS X72.here hx rfl (hb hby at_115) rfl (v := (0 : Int32)) hd115 ?_
    refine XS.ifNo X72.here hx rfl (hb hby at_116) rfl ((if0 _ _).trans (teq (by decide : (0 : Int32) = (0 : Int32))).2) ?_
    refine XS.aload X72.here hx rfl (hb hby at_119) rfl rfl ?_
    show Steps p.tables e below (T72.setTop (mkF m 121 #[.val (.int p0), .val (.int p1), .val (.int p2), .val (.int p3), .val (.int p4), .val (.int (3 : Int32)), .val (.int i1), .val (.int i2), .val (.int i3), .val (.int i4), .val (.ref b1), .val (.ref b2_2), .unset] [(.ref b2_2)])) _
    refine XS.iconst X72.here hx rfl (hb hby at_121) ?_
    refine X72.daload hx (j := (1 : Int32)) (v := (.double (0 : UInt64))) (by rw [e72]; exact Arq74.1) (State.isArrayOf_alike hZ.alike Arq74.2.1) Arq74.2.2 (inb_of Sq74 ⟨by decide, by decide⟩) (Has.at Hq74 (inb_of Sq74 ⟨by decide, by decide⟩) rfl) (g := (mkF m 122 #[.val (.int p0), .val (.int p1), .val (.int p2), .val (.int p3), .val (.int p4), .val (.int (3 : Int32)), .val (.int i1), .val (.int i2), .val (.int i3), .val (.int i4), .val (.ref b1), .val (.ref b2_2), .unset] [(.int (1 : Int32)), (.ref b2_2)])) rfl rfl (hb hby at_122) _ ?_
    show Steps p.tables e below (T72.setTop (mkF m 123 #[.val (.int p0), .val (.int p1), .val (.int p2), .val (.int p3), .val (.int p4), .val (.int (3 : Int32)), .val (.int i1), .val (.int i2), .val (.int i3), .val (.int i4), .val (.ref b1), .val (.ref b2_2), .unset] [(.double (0 : UInt64))])) _
    refine XS.dconst0 X72.here hx rfl (hb hby at_123) (v := (0 : UInt64)) rfl ?_
    refine XS.dcmpS X72.here hx rfl (hb hby at_124) rfl (v := (0 : Int32)) hd124 ?_
    refine XS.ifNo X72.here hx rfl (hb hby at_125) rfl ((if0 _ _).trans (teq (by decide : (0 : Int32) = (0 : Int32))).2) ?_
    refine XS.aload X72.here hx rfl (hb hby at_128) rfl rfl ?_
    show Steps p.tables e below (T72.setTop (mkF m 130 #[.val (.int p0), .val (.int p1), .val (.int p2), .val (.int p3), .val (.int p4), .val (.int (3 : Int32)), .val (.int i1), .val (.int i2), .val (.int i3), .val (.int i4), .val (.ref b1), .val (.ref b2_2), .unset] [(.ref b2_2)])) _
    refine XS.iconst X72.here hx rfl (hb hby at_130) ?_
    refine X72.daload hx (j := (2 : Int32)) (v := (.double (0 : UInt64))) (by rw [e72]; exact Arq75.1) (State.isArrayOf_alike hZ.alike Arq75.2.1) Arq75.2.2 (inb_of Sq75 ⟨by decide, by decide⟩) (Has.at Hq75 (inb_of Sq75 ⟨by decide, by decide⟩) rfl) (g := (mkF m 131 #[.val (.int p0), .val (.int p1), .val (.int p2), .val (.int p3), .val (.int p4), .val (.int (3 : Int32)), .val (.int i1), .val (.int i2), .val (.int i3), .val (.int i4), .val (.ref b1), .val (.ref b2_2), .unset] [(.int (2 : Int32)), (.ref b2_2)])) rfl rfl (hb hby at_131) _ ?_
    show Steps p.tables e below (T72.setTop (mkF m 132 #[.val (.int p0), .val (.int p1), .val (.int p2), .val (.int p3), .val (.int p4), .val (.int (3 : Int32)), .val (.int i1), .val (.int i2), .val (.int i3), .val (.int i4), .val (.ref b1), .val (.ref b2_2), .unset] [(.double (0 : UInt64))])) _
    refine XS.dconst0 X72.here hx rfl (hb hby at_132) (v := (0 : UInt64)) rfl ?_
    refine XS.dcmpS X72.here hx rfl (hb hby at_133) rfl (v := (0 : Int32)) hd133 ?_
    refine XS.ifNo X72.here hx rfl (hb hby at_134) rfl ((if0 _ _).trans (teq (by decide : (0 : Int32) = (0 : Int32))).2) ?_
    refine XS.aload X72.here hx rfl (hb hby at_137) rfl rfl ?_
    show Steps p.tables e below (T72.setTop (mkF m 139 #[.val (.int p0), .val (.int p1), .val (.int p2), .val (.int p3), .val (.int p4), .val (.int (3 : Int32)), .val (.int i1), .val (.int i2), .val (.int i3), .val (.int i4), .val (.ref b1), .val (.ref b2_2), .unset] [(.ref b2_2)])) _
    refine XS.iconst X72.here hx rfl (hb hby at_139) ?_
    refine X72.daload hx (j := (3 : Int32)) (v := (.double (0 : UInt64))) (by rw [e72]; exact Arq76.1) (State.isArrayOf_alike hZ.alike Arq76.2.1) Arq76.2.2 (inb_of Sq76 ⟨by decide, by decide⟩) (Has.at Hq76 (inb_of Sq76 ⟨by decide, by decide⟩) rfl) (g := (mkF m 140 #[.val (.int p0), .val (.int p1), .val (.int p2), .val (.int p3), .val (.int p4), .val (.int (3 : Int32)), .val (.int i1), .val (.int i2), .val (.int i3), .val (.int i4), .val (.ref b1), .val (.ref b2_2), .unset] [(.int (3 : Int32)), (.ref b2_2)])) rfl rfl (hb hby at_140) _ ?_
    show Steps p.tables e below (T72.setTop (mkF m 141 #[.val (.int p0), .val (.int p1), .val (.int p2), .val (.int p3), .val (.int p4), .val (.int (3 : Int32)), .val (.int i1), .val (.int i2), .val (.int i3), .val (.int i4), .val (.ref b1), .val (.ref b2_2), .unset] [(.double (0 : UInt64))])) _
    refine XS.dconst0 X72.here hx rfl (hb hby at_141) (v := (0 : UInt64)) rfl ?_
    refine XS.dcmpS X72.here hx rfl (hb hby at_142) rfl (v := (0 : Int32)) hd142 ?_
    refine XS.ifNo X72.here hx rfl (hb hby at_143) rfl ((if0 _ _).trans (teq (by decide : (0 : Int32) = (0 : Int32))).2) ?_
    refine XS.iconst X72.here hx rfl (hb hby at_146) ?_
    show Steps p.tables e below (T72.setTop (mkF m 147 #[.val (.int p0), .val (.int p1), .val (.int p2), .val (.int p3), .val (.int p4), .val (.int (3 : Int32)), .val (.int i1), .val (.int i2), .val (.int i3), .val (.int i4), .val (.ref b1), .val (.ref b2_2), .unset] [(.int (1 : Int32))])) _
    refine XS.goto X72.here hx rfl (pc0 := 147) (pc' := 151) rfl (hb hby at_147) (by decide) (by decide) ?_
    refine XS.istore X72.here hx rfl (hb hby at_151) rfl (l' := #[.val (.int p0), .val (.int p1), .val (.int p2), .val (.int p3), .val (.int p4), .val (.int (3 : Int32)), .val (.int i1), .val (.int i2), .val (.int i3), .val (.int i4), .val (.ref b1), .val (.ref b2_2), .val (.int (1 : Int32))]) rfl ?_
    refine XS.aload X72.here hx rfl (hb hby at_153) rfl rfl ?_
    refine XS.iload X72.here hx rfl (hb hby at_155) rfl ?_
    refine XS.iload X72.here hx rfl (hb hby at_157) rfl ?_
    refine XS.i2dS X72.here hx rfl (hb hby at_159) rfl (v := (FP.i2d p4)) rfl ?_
    show Steps p.tables e below (T72.setTop (mkF m 160 #[.val (.int p0), .val (.int p1), .val (.int p2), .val (.int p3), .val (.int p4), .val (.int (3 : Int32)), .val (.int i1), .val (.int i2), .val (.int i3), .val (.int i4), .val (.ref b1), .val (.ref b2_2), .val (.int (1 : Int32))] [(.double (FP.i2d p4)), (.int i4), (.ref b1)])) _
    refine st77.trans ?_
    show Steps p.tables e below (T77.setTop (mkF m 163 #[.val (.int p0), .val (.int p1), .val (.int p2), .val (.int p3), .val (.int p4), .val (.int (3 : Int32)), .val (.int i1), .val (.int i2), .val (.int i3), .val (.int i4), .val (.ref b1), .val (.ref b2_2), .val (.int (1 : Int32))] [])) _
    refine XS.aload X77.here hx rfl (hb hby at_163) rfl rfl ?_
    refine st87.trans ?_
    show Steps p.tables e below (T87.setTop (mkF m 168 #[.val (.int p0), .val (.int p1), .val (.int p2), .val (.int p3), .val (.int p4), .val (.int (3 : Int32)), .val (.int i1), .val (.int i2), .val (.int i3), .val (.int i4), .val (.ref b1), .val (.ref b2_2), .val (.int (1 : Int32))] [(.ref b2_2)])) _
    refine XS.astore X87.here hx rfl (hb hby at_168) rfl rfl (l' := #[.val (.int p0), .val (.int p1), .val (.int p2), .val (.int p3), .val (.int p4), .val (.int (3 : Int32)), .val (.int i1), .val (.int i2), .val (.int i3), .val (.int i4), .val (.ref b1), .val (.ref b2_2), .val (.int (1 : Int32))]) rfl ?_
    refine XS.iload X87.here hx rfl (hb hby at_170) rfl ?_
    refine XS.ifNo X87.here hx rfl (hb hby at_172) rfl ((if0 _ _).trans (feq (by decide : ¬ ((1 : Int32) = (0 : Int32)))).1) ?_
    show Steps p.tables e below (T87.setTop (mkF m 175 #[.val (.int p0), .val (.int p1), .val (.int p2), .val (.int p3), .val (.int p4), .val (.int (3 : Int32)), .val (.int i1), .val (.int i2), .val (.int i3), .val (.int i4), .val (.ref b1), .val (.ref b2_2), .val (.int (1 : Int32))] [])) _
    refine XS.aload X87.here hx rfl (hb hby at_175) rfl rfl ?_
    refine st88.trans ?_
    show Steps p.tables e below (T88.setTop (mkF m 180 #[.val (.int p0), .val (.int p1), .val (.int p2), .val (.int p3), .val (.int p4), .val (.int (3 : Int32)), .val (.int i1), .val (.int i2), .val (.int i3), .val (.int i4), .val (.ref b1), .val (.ref b2_2), .val (.int (1 : Int32))] [(.int (1 : Int32))])) _
    refine XS.iconst X88.here hx rfl (hb hby at_180) ?_
    refine XS.icmpNo X88.here hx rfl (hb hby at_181) rfl (teq (by decide : (1 : Int32) = (1 : Int32))).2 ?_
    refine XS.aload X88.here hx rfl (hb hby at_184) rfl rfl ?_
    refine st89.trans ?_
    show Steps p.tables e below (T89.setTop (mkF m 189 #[.val (.int p0), .val (.int p1), .val (.int p2), .val (.int p3), .val (.int p4), .val (.int (3 : Int32)), .val (.int i1), .val (.int i2), .val (.int i3), .val (.int i4), .val (.ref b1), .val (.ref b2_2), .val (.int (1 : Int32))] [(.ref b30_2)])) _
    refine XS.iconst X89.here hx rfl (hb hby at_189) ?_
    refine X89.iaload hx (j := (0 : Int32)) (v := (.int i4)) (by rw [e89]; exact Arq90.1) (State.isArrayOf_alike hZ.alike Arq90.2.1) Arq90.2.2 (inb_of Sq90 ⟨by decide, by decide⟩) (Has.at Hq90 (inb_of Sq90 ⟨by decide, by decide⟩) rfl) (g := (mkF m 190 #[.val (.int p0), .val (.int p1), .val (.int p2), .val (.int p3), .val (.int p4), .val (.int (3 : Int32)), .val (.int i1), .val (.int i2), .val (.int i3), .val (.int i4), .val (.ref b1), .val (.ref b2_2), .val (.int (1 : Int32))] [(.int (0 : Int32)), (.ref b30_2)])) rfl rfl (hb hby at_190) _ ?_
    show Steps p.tables e below (T89.setTop (mkF m 191 #[.val (.int p0), .val (.int p1), .val (.int p2), .val (.int p3), .val (.int p4), .val (.int (3 : Int32)), .val (.int i1), .val (.int i2), .val (.int i3), .val (.int i4), .val (.ref b1), .val (.ref b2_2), .val (.int (1 : Int32))] [(.int i4)])) _
    refine XS.iload X89.here hx rfl (hb hby at_191) rfl ?_
    refine XS.icmpNo X89.here hx rfl (hb hby at_193) rfl (teq (rfl : i4 = i4)).2 ?_
    refine XS.aload X89.here hx rfl (hb hby at_196) rfl rfl ?_
    refine XS.iload X89.here hx rfl (hb hby at_198) rfl ?_
    show Steps p.tables e below (T89.setTop (mkF m 200 #[.val (.int p0), .val (.int p1), .val (.int p2), .val (.int p3), .val (.int p4), .val (.int (3 : Int32)), .val (.int i1), .val (.int i2), .val (.int i3), .val (.int i4), .val (.ref b1), .val (.ref b2_2), .val (.int (1 : Int32))] [(.int i4), (.ref b2_2)])) _
    refine X89.daload hx (j := i4) (v := (.double y9)) (by rw [e89]; exact Arq91.1) (State.isArrayOf_alike hZ.alike Arq91.2.1) Arq91.2.2 (inb_of Sq91 hix4) (Has.at Hq91 (inb_of Sq91 hix4) hr200) (g := (mkF m 200 #[.val (.int p0), .val (.int p1), .val (.int p2), .val (.int p3), .val (.int p4), .val (.int (3 : Int32)), .val (.int i1), .val (.int i2), .val (.int i3), .val (.int i4), .val (.ref b1), .val (.ref b2_2), .val (.int (1 : Int32))] [(.int i4), (.ref b2_2)])) rfl rfl (hb hby at_200) _ ?_
    show Steps p.tables e below (T89.setTop (mkF m 201 #[.val (.int p0), .val (.int p1), .val (.int p2), .val (.int p3), .val (.int p4), .val (.int (3 : Int32)), .val (.int i1), .val (.int i2), .val (.int i3), .val (.int i4), .val (.ref b1), .val (.ref b2_2), .val (.int (1 : Int32))] [(.double y9)])) _
    refine XS.iload X89.here hx rfl (hb hby at_201) rfl ?_
    refine XS.i2dS X89.here hx rfl (hb hby at_203) rfl (v := (FP.i2d p4)) rfl ?_
    refine XS.dcmpS X89.here hx rfl (hb hby at_204) rfl (v := (0 : Int32)) hd204 ?_
    refine XS.ifNo X89.here hx rfl (hb hby at_205) rfl ((if0 _ _).trans (teq (by decide : (0 : Int32) = (0 : Int32))).2) ?_
    refine XS.iconst X89.here hx rfl (hb hby at_208) ?_
    show Steps p.tables e below (T89.setTop (mkF m 209 #[.val (.int p0), .val (.int p1), .val (.int p2), .val (.int p3), .val (.int p4), .val (.int (3 : Int32)), .val (.int i1), .val (.int i2), .val (.int i3), .val (.int i4), .val (.ref b1), .val (.ref b2_2), .val (.int (1 : Int32))] [(.int (1 : Int32))])) _
    refine XS.goto X89.here hx rfl (pc0 := 209) (pc' := 213) rfl (hb hby at_209) (by decide) (by decide) ?_
    refine XS.istore X89.here hx rfl (hb hby at_213) rfl (l' := #[.val (.int p0), .val (.int p1), .val (.int p2), .val (.int p3), .val (.int p4), .val (.int (3 : Int32)), .val (.int i1), .val (.int i2), .val (.int i3), .val (.int i4), .val (.ref b1), .val (.ref b2_2), .val (.int (1 : Int32))]) rfl ?_
    refine XS.iload X89.here hx rfl (hb hby at_215) rfl ?_
    refine XS.ifNo X89.here hx rfl (hb hby at_217) rfl ((if0 _ _).trans (feq (by decide : ¬ ((1 : Int32) = (0 : Int32)))).1) ?_
    refine XS.aload X89.here hx rfl (hb hby at_220) rfl rfl ?_
    refine XS.iconst X89.here hx rfl (hb hby at_222) ?_
    show Steps p.tables e below (T89.setTop (mkF m 223 #[.val (.int p0), .val (.int p1), .val (.int p2), .val (.int p3), .val (.int p4), .val (.int (3 : Int32)), .val (.int i1), .val (.int i2), .val (.int i3), .val (.int i4), .val (.ref b1), .val (.ref b2_2), .val (.int (1 : Int32))] [(.int (0 : Int32)), (.ref b2_2)])) _
    refine XS.iload X89.here hx rfl (hb hby at_223) rfl ?_
    refine st92 _ ?_
    show Steps p.tables e below (T92.setTop (mkF m 228 #[.val (.int p0), .val (.int p1), .val (.int p2), .val (.int p3), .val (.int p4), .val (.int (3 : Int32)), .val (.int i1), .val (.int i2), .val (.int i3), .val (.int i4), .val (.ref b1), .val (.ref b2_2), .val (.int (1 : Int32))] [(.int (1 : Int32))])) _
    refine XS.ifNo X92.here hx rfl (hb hby at_228) rfl ((if0 _ _).trans (feq (by decide : ¬ ((1 : Int32) = (0 : Int32)))).1) ?_
    refine XS.aload X92.here hx rfl (hb hby at_231) rfl rfl ?_
    refine XS.iconst X92.here hx rfl (hb hby at_233) ?_
    refine XS.iload X92.here hx rfl (hb hby at_234) rfl ?_
    show Steps p.tables e below (T92.setTop (mkF m 236 #[.val (.int p0), .val (.int p1), .val (.int p2), .val (.int p3), .val (.int p4), .val (.int (3 : Int32)), .val (.int i1), .val (.int i2), .val (.int i3), .val (.int i4), .val (.ref b1), .val (.ref b2_2), .val (.int (1 : Int32))] [(.int i4), (.int (1 : Int32)), (.ref b2_2)])) _
    refine st93 _ ?_
    show Steps p.tables e below (T93.setTop (mkF m 239 #[.val (.int p0), .val (.int p1), .val (.int p2), .val (.int p3), .val (.int p4), .val (.int (3 : Int32)), .val (.int i1), .val (.int i2), .val (.int i3), .val (.int i4), .val (.ref b1), .val (.ref b2_2), .val (.int (1 : Int32))] [(.int (1 : Int32))])) _
    refine XS.ifNo X93.here hx rfl (hb hby at_239) rfl ((if0 _ _).trans (feq (by decide : ¬ ((1 : Int32) = (0 : Int32)))).1) ?_
    refine XS.aload X93.here hx rfl (hb hby at_242) rfl rfl ?_
    refine XS.iconst X93.here hx rfl (hb hby at_244) ?_
    refine XS.iload X93.here hx rfl (hb hby at_245) rfl ?_
    refine st94 _ ?_
    show Steps p.tables e below (T94.setTop (mkF m 250 #[.val (.int p0), .val (.int p1), .val (.int p2), .val (.int p3), .val (.int p4), .val (.int (3 : Int32)), .val (.int i1), .val (.int i2), .val (.int i3), .val (.int i4), .val (.ref b1), .val (.ref b2_2), .val (.int (1 : Int32))] [(.int (1 : Int32))])) _
    refine XS.ifNo X94.here hx rfl (hb hby at_250) rfl ((if0 _ _).trans (feq (by decide : ¬ ((1 : Int32) = (0 : Int32)))).1) ?_
    refine XS.aload X94.here hx rfl (hb hby at_253) rfl rfl ?_
    refine XS.iconst X94.here hx rfl (hb hby at_255) ?_
    refine XS.iload X94.here hx rfl (hb hby at_256) rfl ?_
    refine st95 _ ?_
    show Steps p.tables e below (T95.setTop (mkF m 261 #[.val (.int p0), .val (.int p1), .val (.int p2), .val (.int p3), .val (.int p4), .val (.int (3 : Int32)), .val (.int i1), .val (.int i2), .val (.int i3), .val (.int i4), .val (.ref b1), .val (.ref b2_2), .val (.int (1 : Int32))] [(.int (1 : Int32))])) _
    refine XS.ifNo X95.here hx rfl (hb hby at_261) rfl ((if0 _ _).trans (feq (by decide : ¬ ((1 : Int32) = (0 : Int32)))).1) ?_
    show Steps p.tables e below (T95.setTop (mkF m 264 #[.val (.int p0), .val (.int p1), .val (.int p2), .val (.int p3), .val (.int p4), .val (.int (3 : Int32)), .val (.int i1), .val (.int i2), .val (.int i3), .val (.int i4), .val (.ref b1), .val (.ref b2_2), .val (.int (1 : Int32))] [])) _
    refine XS.iconst X95.here hx rfl (hb hby at_264) ?_
    refine XS.goto X95.here hx rfl (pc0 := 265) (pc' := 269) rfl (hb hby at_265) (by decide) (by decide) ?_
    refine XS.istore X95.here hx rfl (hb hby at_269) rfl (l' := #[.val (.int p0), .val (.int p1), .val (.int p2), .val (.int p3), .val (.int p4), .val (.int (3 : Int32)), .val (.int i1), .val (.int i2), .val (.int i3), .val (.int i4), .val (.ref b1), .val (.ref b2_2), .val (.int (1 : Int32))]) rfl ?_
    refine XS.iload X95.here hx rfl (hb hby at_271) rfl ?_
    exact retN X95 hx (t := .boolean) Bd.returns (by simp) (hb hby at_273) hr
  · show Q0 n0 _ T95.heap _
    rw [e95]
    exact ⟨rfl, N95⟩
set_option maxRecDepth 65536 in
set_option maxHeartbeats 40000000 in
theorem rm3SD (l : Launch) (Z : State) (a0 : Array Value) (hw : ∀ d ∈ tables_1, d.before a0 Z = true) (ws : List Jvm.Cond) (p0 : Int32) (p1 : Int32) (p2 : Int32) (p3 : Int32) (p4 : Int32) (i4 : Int32) (U1 : List Value) (x1 : UInt64) (y1 : UInt64) (M1 : List Value) (U2 : List Value) (x2 : UInt64) (y2 : UInt64) (U3 : List Value) (x3 : UInt64) (y3 : UInt64) (M3 : List Value) (U9 : List Value) (M9 : List Value) (y9 : UInt64) (i1 : Int32) (i2 : Int32) (i3 : Int32) (h0 : Heap) (n0 : Nat) (Z0 : n0 ≤ h0.size) (hix4 : ¬ i4 < 0 ∧ i4 < (4 : Int32)) (hr200 : U9.getD i4.toNatClampNeg (.double (0 : UInt64)) = .double y9) (hv2 : (p0 &&& (3 : Int32)) = (3 : Int32)) (hv9 : (((p0.toUInt32 >>> ((2 : Int32) &&& 31).toUInt32).toInt32) &&& (3 : Int32)) = i1) (hv16 : (((p0.toUInt32 >>> ((4 : Int32) &&& 31).toUInt32).toInt32) &&& (3 : Int32)) = i2) (hv24 : (((p0.toUInt32 >>> ((6 : Int32) &&& 31).toUInt32).toInt32) &&& (3 : Int32)) = i3) (hv32 : (((p0.toUInt32 >>> ((8 : Int32) &&& 31).toUInt32).toInt32) &&& (3 : Int32)) = i4) (hix_57 : ¬ i1 < 0 ∧ i1 < (4 : Int32)) (hrl_57 : ([(.int (0 : Int32)), (.int (0 : Int32)), (.int (0 : Int32)), (.int (0 : Int32))] : List Value).getD i1.toNatClampNeg (.int (0 : Int32)) = .int (0 : Int32)) (hrv_57 : ([(.double (0 : UInt64)), (.double (0 : UInt64)), (.double (0 : UInt64)), (.double (0 : UInt64))] : List Value).getD i1.toNatClampNeg (.double (0 : UInt64)) = .double x1) (hvl_57 : i1.toNatClampNeg < ([(.double (0 : UInt64)), (.double (0 : UInt64)), (.double (0 : UInt64)), (.double (0 : UInt64))] : List Value).length) (hll_57 : i1.toNatClampNeg < ([(.int (0 : Int32)), (.int (0 : Int32)), (.int (0 : Int32)), (.int (0 : Int32))] : List Value).length) (hls_57 : (([(.int (0 : Int32)), (.int (0 : Int32)), (.int (0 : Int32)), (.int (0 : Int32))] : List Value).set i1.toNatClampNeg (.int (1 : Int32))) = M1) (hvs_57 : (([(.double (0 : UInt64)), (.double (0 : UInt64)), (.double (0 : UInt64)), (.double (0 : UInt64))] : List Value).set i1.toNatClampNeg (.double y1)) = U1) (nn41_57 : Jvm.Free.Fl.NoNaN64 (FP.dadd x1 (FP.i2d p1))) (hq41_57 : (FP.dadd x1 (FP.i2d p1)) = y1) (hix_72 : ¬ i2 < 0 ∧ i2 < (4 : Int32)) (hrl_72 : M1.getD i2.toNatClampNeg (.int (0 : Int32)) = .int (1 : Int32)) (hrv_72 : U1.getD i2.toNatClampNeg (.double (0 : UInt64)) = .double x2) (hvl_72 : i2.toNatClampNeg < U1.length) (hvs_72 : (U1.set i2.toNatClampNeg (.double y2)) = U2) (nn41_72 : Jvm.Free.Fl.NoNaN64 (FP.dadd x2 (FP.i2d p2))) (hq41_72 : (FP.dadd x2 (FP.i2d p2)) = y2) (hix_87 : ¬ i3 < 0 ∧ i3 < (4 : Int32)) (hrl_87 : M1.getD i3.toNatClampNeg (.int (0 : Int32)) = .int (0 : Int32)) (hrv_87 : U2.getD i3.toNatClampNeg (.double (0 : UInt64)) = .double x3) (hvl_87 : i3.toNatClampNeg < U2.length) (hll_87 : i3.toNatClampNeg < M1.length) (hls_87 : (M1.set i3.toNatClampNeg (.int (1 : Int32))) = M3) (hvs_87 : (U2.set i3.toNatClampNeg (.double y3)) = U3) (nn41_87 : Jvm.Free.Fl.NoNaN64 (FP.dadd x3 (FP.i2d p3))) (hq41_87 : (FP.dadd x3 (FP.i2d p3)) = y3) (hx0_92 : ¬ i1 < 0 ∧ i1 < (4 : Int32)) (hv0_92 : i1.toNatClampNeg < U3.length) (hl0_92 : i1.toNatClampNeg < M3.length) (hx1_92 : ¬ i3 < 0 ∧ i3 < (4 : Int32)) (hv1_92 : i3.toNatClampNeg < U3.length) (hl1_92 : i3.toNatClampNeg < M3.length) (hvs_92 : ((U3.set i1.toNatClampNeg (.double (0 : UInt64))).set i3.toNatClampNeg (.double (0 : UInt64))) = ([(.double (0 : UInt64)), (.double (0 : UInt64)), (.double (0 : UInt64)), (.double (0 : UInt64))] : List Value)) (hls_92 : ((M3.set i1.toNatClampNeg (.int (0 : Int32))).set i3.toNatClampNeg (.int (0 : Int32))) = ([(.int (0 : Int32)), (.int (0 : Int32)), (.int (0 : Int32)), (.int (0 : Int32))] : List Value)) (hd115 : (cmpValue (FP.dcmp (0 : UInt64) (0 : UInt64)) .l) = (0 : Int32)) (hd124 : (cmpValue (FP.dcmp (0 : UInt64) (0 : UInt64)) .l) = (0 : Int32)) (hd133 : (cmpValue (FP.dcmp (0 : UInt64) (0 : UInt64)) .l) = (0 : Int32)) (hd142 : (cmpValue (FP.dcmp (0 : UInt64) (0 : UInt64)) .l) = (0 : Int32)) (hix_160 : ¬ i4 < 0 ∧ i4 < (4 : Int32)) (hrl_160 : ([(.int (0 : Int32)), (.int (0 : Int32)), (.int (0 : Int32)), (.int (0 : Int32))] : List Value).getD i4.toNatClampNeg (.int (0 : Int32)) = .int (0 : Int32)) (hrv_160 : ([(.double (0 : UInt64)), (.double (0 : UInt64)), (.double (0 : UInt64)), (.double (0 : UInt64))] : List Value).getD i4.toNatClampNeg (.double (0 : UInt64)) = .double (0 : UInt64)) (hvl_160 : i4.toNatClampNeg < ([(.double (0 : UInt64)), (.double (0 : UInt64)), (.double (0 : UInt64)), (.double (0 : UInt64))] : List Value).length) (hll_160 : i4.toNatClampNeg < ([(.int (0 : Int32)), (.int (0 : Int32)), (.int (0 : Int32)), (.int (0 : Int32))] : List Value).length) (hls_160 : (([(.int (0 : Int32)), (.int (0 : Int32)), (.int (0 : Int32)), (.int (0 : Int32))] : List Value).set i4.toNatClampNeg (.int (1 : Int32))) = M9) (hvs_160 : (([(.double (0 : UInt64)), (.double (0 : UInt64)), (.double (0 : UInt64)), (.double (0 : UInt64))] : List Value).set i4.toNatClampNeg (.double y9)) = U9) (nn41_160 : Jvm.Free.Fl.NoNaN64 (FP.dadd (0 : UInt64) (FP.i2d p4))) (hq41_160 : (FP.dadd (0 : UInt64) (FP.i2d p4)) = y9) (hd204 : (cmpValue (FP.dcmp y9 (FP.i2d p4)) .l) = (0 : Int32)) (hix_225 : ¬ (0 : Int32) < 0 ∧ (0 : Int32) < (4 : Int32)) (hrd_225 : ¬ ((0 : Int32) = i4) → U9.getD (0 : Int32).toNatClampNeg (.double (0 : UInt64)) = .double (0 : UInt64)) (hd9_225 : (cmpValue (FP.dcmp (0 : UInt64) (0 : UInt64)) .l) = (0 : Int32)) (hix_236 : ¬ (1 : Int32) < 0 ∧ (1 : Int32) < (4 : Int32)) (hrd_236 : ¬ ((1 : Int32) = i4) → U9.getD (1 : Int32).toNatClampNeg (.double (0 : UInt64)) = .double (0 : UInt64)) (hd9_236 : (cmpValue (FP.dcmp (0 : UInt64) (0 : UInt64)) .l) = (0 : Int32)) (hix_247 : ¬ (2 : Int32) < 0 ∧ (2 : Int32) < (4 : Int32)) (hrd_247 : ¬ ((2 : Int32) = i4) → U9.getD (2 : Int32).toNatClampNeg (.double (0 : UInt64)) = .double (0 : UInt64)) (hd9_247 : (cmpValue (FP.dcmp (0 : UInt64) (0 : UInt64)) .l) = (0 : Int32)) (hix_258 : ¬ (3 : Int32) < 0 ∧ (3 : Int32) < (4 : Int32)) (hrd_258 : ¬ ((3 : Int32) = i4) → U9.getD (3 : Int32).toNatClampNeg (.double (0 : UInt64)) = .double (0 : UInt64)) (hd9_258 : (cmpValue (FP.dcmp (0 : UInt64) (0 : UInt64)) .l) = (0 : Int32)) :
    MetFree l x (head1 (Jvm.Cond.code x code maxLocals ret :: ws) room_1) (fun a U => a = #[(.int p0), (.int p1), (.int p2), (.int p3), (.int p4)] ∧ Z.Warmed39 U.vm ∧ U.heap = h0) (fun _ _ _ _ _ => True) (fun _ U o U' => ∃ v L, o = .returned v ∧ Q0 n0 v U'.heap L ∧ FrameEnd U o U' L room_1.cells room_1.slots) := by
  refine MetFree.of_bodySF (plainFor_of_name pn_com_example_leeway_leeway_lp_SparseColumnClearPinLaw) hisR ?_
  intro p e s m args below meth c s₁ Bd hml0 hP hK
  obtain ⟨rfl, hZ, hh⟩ := hP
  have hx := Bd.exec
  have hby := Bd.bytes
  have hml : c.maxLocals = 13 := hml0
  have hown : s.vm.findClass "com/example/leeway/leeway/lp/SparseColumnClearPinLaw" = some m.cls := findClass_of_methodNamed Bd.named
  have hnm := (name_of_methodNamed Bd.named Bd.method).1
  have X0 : Stand p l e room_1 s m #[(.int p0), (.int p1), (.int p2), (.int p3), (.int p4)] below meth c s₁ [] 0 0 := Stand.of_body Bd
  have e0 : s₁.heap = h0 := by rw [← hh, Bd.state]; rfl
  have N0 := Fr.nil n0
  have pre0 : ∀ t, Steps p.tables e below (s₁.setTop (mkF m 0 #[.val (.int p0), .val (.int p1), .val (.int p2), .val (.int p3), .val (.int p4), .unset, .unset, .unset, .unset, .unset, .unset, .unset, .unset] [])) t → Steps p.tables e below (s₁.setTop (entryFrame m #[(.int p0), (.int p1), (.int p2), (.int p3), (.int p4)] maxLocals)) t := fun t k => castTop (ef_0_IIIII m p0 p1 p2 p3 p4) k
  obtain ⟨T1, h1, X1, e1, E1, A1, D1, -, st1⟩ := newO X0 hx hZ hown (hw _ (List.mem_of_getElem? (i := 0) rfl)) (hw _ (List.mem_of_getElem? (i := 1) rfl)) (hw _ (List.mem_of_getElem? (i := 2) rfl)) e0 (g := (mkF m 35 #[.val (.int p0), .val (.int p1), .val (.int p2), .val (.int p3), .val (.int p4), .val (.int (3 : Int32)), .val (.int i1), .val (.int i2), .val (.int i3), .val (.int i4), .unset, .unset, .unset] [])) rfl (hb hby at_35) (by decide) (by decide)
  obtain ⟨b1, g1⟩ : ∃ z, z = h0.size := ⟨_, rfl⟩
  rw [← g1] at A1 D1 st1
  have g_b1 : n0 ≤ b1 := Nat.le_trans Z0 (Nat.le_of_eq g1.symm)
  have sz_b1 : h0.size ≤ b1 := Nat.le_trans (Keep.refl h0 []).1 (Nat.le_of_eq g1.symm)
  have K1 : Keep h0 h1 [] := (Keep.refl h0 []).ext E1
  have Zs1 := Nat.le_trans Z0 E1.1
  have F1_values : Fld Z h1 b1 "com/example/leeway/leeway/lp/SparseColumn" "values" "[D" .null := D1 (Or.inr (hw _ (List.mem_of_getElem? (i := 11) rfl))) (ty := (.array .double)) (by decide)
  have F1_listed : Fld Z h1 b1 "com/example/leeway/leeway/lp/SparseColumn" "listed" "[Z" .null := D1 (Or.inr (hw _ (List.mem_of_getElem? (i := 14) rfl))) (ty := (.array .boolean)) (by decide)
  have F1_rows : Fld Z h1 b1 "com/example/leeway/leeway/lp/SparseColumn" "rows" "[I" .null := D1 (Or.inr (hw _ (List.mem_of_getElem? (i := 17) rfl))) (ty := (.array .int)) (by decide)
  have F1_count : Fld Z h1 b1 "com/example/leeway/leeway/lp/SparseColumn" "count" "I" (.int (0 : Int32)) := D1 (Or.inl (hw _ (List.mem_of_getElem? (i := 24) rfl))) (ty := .int) (by decide)
  obtain ⟨_, _, ⟨T2, L2, k2, n2⟩, -, X2, ⟨Lc2, hQ2, l2, y2, z2⟩, st2⟩ := X1.specialBack hx (y := (⟨"com/example/leeway/leeway/lp/SparseColumn", "<init>", "(I)V"⟩ : MethodName)) rfl hown (mvT hZ (hw _ (List.mem_of_getElem? (i := 3) rfl))) (mvT hZ (hw _ (List.mem_of_getElem? (i := 4) rfl))) (mvT hZ (hw _ (List.mem_of_getElem? (i := 5) rfl))) (by decide) (backOf (W := 1) (sci l Z a0 hw [] b1 h1 n0 Zs1 g_b1 A1 F1_values F1_listed F1_rows F1_count) hZ (hw _ (List.mem_of_getElem? (i := 5) rfl)) (hw _ (List.mem_of_getElem? (i := 2) rfl)) (by decide) (by decide)) (g := (mkF m 40 #[.val (.int p0), .val (.int p1), .val (.int p2), .val (.int p3), .val (.int p4), .val (.int (3 : Int32)), .val (.int i1), .val (.int i2), .val (.int i3), .val (.int i4), .unset, .unset, .unset] [(.int (4 : Int32)), (.ref b1), (.ref b1)])) rfl (by rw [hml]; rfl) (Steps.refl _) (a := b1) (argsL := [(.int (4 : Int32))]) (rest := [(.ref b1)]) (lenOf pd_0 rfl) rfl (by show 2 * 0 + _ ≤ _; exact Nat.le_of_eq rfl) (hb hby at_40) (fun _ _ => ⟨rfl, e1, (by decide : 1 + 3 ≤ _), (by decide : 4 + 12 ≤ _)⟩)
  dsimp only [Pt.U, Pt.locs, Pt.cells, Pt.slots] at X2 l2 y2 z2 st2 hQ2
  subst l2 y2 z2
  obtain ⟨b2_2, b15_2, b30_2, k2_2, k15_2, k30_2, rfl, N2q, K2q, r3, r4, r5, r6, r7, r8, f9, f10, f11, f12, f13, f14, f15, f16⟩ := hQ2
  have N2 := Fr.app N0 N2q
  have ne_b1_b2_2 : b1 ≠ b2_2 := Nat.ne_of_lt (Nat.lt_of_lt_of_le A1.lt r3)
  have g_b2_2 : n0 ≤ b2_2 := Nat.le_trans Zs1 r3
  have sz_b2_2 : h0.size ≤ b2_2 := Nat.le_trans K1.1 r3
  have ne_b1_b15_2 : b1 ≠ b15_2 := Nat.ne_of_lt (Nat.lt_of_lt_of_le A1.lt r4)
  have g_b15_2 : n0 ≤ b15_2 := Nat.le_trans Zs1 r4
  have sz_b15_2 : h0.size ≤ b15_2 := Nat.le_trans K1.1 r4
  have ne_b1_b30_2 : b1 ≠ b30_2 := Nat.ne_of_lt (Nat.lt_of_lt_of_le A1.lt r5)
  have g_b30_2 : n0 ≤ b30_2 := Nat.le_trans Zs1 r5
  have sz_b30_2 : h0.size ≤ b30_2 := Nat.le_trans K1.1 r5
  have f17 := A1.keep K2q
  have K2 : Keep h0 T2.heap [] := K1.trans K2q (own_allS (Or.inr sz_b1) own_all0)
  have Zs2 := Nat.le_trans Zs1 K2q.1
  obtain ⟨cq18, kq18, q18a, q18b, q18c⟩ := isOf hZ rfl f9
  obtain ⟨_, _, ⟨T18, L18, k18, n18⟩, -, X18, ⟨Lc18, hQ18, l18, y18, z18⟩, st18⟩ := X2.virtualBack hx (y := (⟨"com/example/leeway/leeway/lp/SparseColumn", "add", "(ID)V"⟩ : MethodName)) (z := (⟨"com/example/leeway/leeway/lp/SparseColumn", "add", "(ID)V"⟩ : MethodName)) hown (mvT hZ (hw _ (List.mem_of_getElem? (i := 35) rfl))) (mvT hZ (hw _ (List.mem_of_getElem? (i := 36) rfl))) (notFace_of_selects (args := #[]) (mvT hZ (hw _ (List.mem_of_getElem? (i := 38) rfl)))) (mvT hZ (hw _ (List.mem_of_getElem? (i := 38) rfl))) (mvT hZ (hw _ (List.mem_of_getElem? (i := 37) rfl))) (by decide) (backOf (W := 0) (addN0 l Z a0 hw [] b1 b2_2 b15_2 b30_2 k2_2 k15_2 k30_2 (0 : Int32) (0 : Int32) (0 : Int32) (0 : Int32) ([(.double (0 : UInt64)), (.double (0 : UInt64)), (.double (0 : UInt64)), (.double (0 : UInt64))] : List Value) ([(.int (0 : Int32)), (.int (0 : Int32)), (.int (0 : Int32)), (.int (0 : Int32))] : List Value) U1 M1 i1 (FP.i2d p1) x1 y1 T2.heap n0 Zs2 f10 f11 f12 f13 f9 f14 f15 f16 g_b1 g_b2_2 g_b15_2 g_b30_2 ne_b1_b2_2 ne_b1_b15_2 ne_b1_b30_2 r6 r7 r8 hix_57 hrl_57 hrv_57 hvl_57 hll_57 hls_57 hvs_57 nn41_57 hq41_57) hZ (hw _ (List.mem_of_getElem? (i := 39) rfl)) (hw _ (List.mem_of_getElem? (i := 2) rfl)) (by decide) (by decide)) q18a q18c (g := (mkF m 57 #[.val (.int p0), .val (.int p1), .val (.int p2), .val (.int p3), .val (.int p4), .val (.int (3 : Int32)), .val (.int i1), .val (.int i2), .val (.int i3), .val (.int i4), .val (.ref b1), .unset, .unset] [(.double (FP.i2d p1)), (.int i1), (.ref b1)])) rfl (by rw [hml]; rfl) (Steps.refl _) (argsL := [(.int i1), (.double (FP.i2d p1))]) (rest := []) (lenOf pd_4 rfl) rfl (by show 2 * 0 + _ ≤ _; exact Nat.le_of_eq rfl) (hb hby at_57) (fun _ _ => ⟨rfl, rfl, (by decide : 4 + 0 ≤ _), (by decide : 16 + 0 ≤ _)⟩)
  dsimp only [Pt.U, Pt.locs, Pt.cells, Pt.slots] at X18 l18 y18 z18 st18 hQ18
  subst l18 y18 z18
  obtain ⟨rfl, N18q, K18q, f19, f20, f21, f22, f23, f24, f25, f26⟩ := hQ18
  have N18 := Fr.app N2 N18q
  have f27 := f9.keep K18q
  have K18 : Keep h0 T18.heap [] := K2.trans K18q (own_allS (Or.inr sz_b15_2) (own_allS (Or.inr sz_b1) (own_allS (Or.inr sz_b30_2) (own_allS (Or.inr sz_b2_2) own_all0))))
  have Zs18 := Nat.le_trans Zs2 K18q.1
  obtain ⟨cq28, kq28, q28a, q28b, q28c⟩ := isOf hZ rfl f19
  obtain ⟨_, _, ⟨T28, L28, k28, n28⟩, -, X28, ⟨Lc28, hQ28, l28, y28, z28⟩, st28⟩ := X18.virtualBack hx (y := (⟨"com/example/leeway/leeway/lp/SparseColumn", "add", "(ID)V"⟩ : MethodName)) (z := (⟨"com/example/leeway/leeway/lp/SparseColumn", "add", "(ID)V"⟩ : MethodName)) hown (mvT hZ (hw _ (List.mem_of_getElem? (i := 35) rfl))) (mvT hZ (hw _ (List.mem_of_getElem? (i := 36) rfl))) (notFace_of_selects (args := #[]) (mvT hZ (hw _ (List.mem_of_getElem? (i := 38) rfl)))) (mvT hZ (hw _ (List.mem_of_getElem? (i := 38) rfl))) (mvT hZ (hw _ (List.mem_of_getElem? (i := 37) rfl))) (by decide) (backOf (W := 0) (addL1 l Z a0 hw [] b1 b2_2 b15_2 b30_2 k2_2 k15_2 k30_2 i1 (0 : Int32) (0 : Int32) (0 : Int32) U1 M1 U2 i2 (FP.i2d p2) x2 y2 T18.heap n0 Zs18 f20 f21 f22 f23 f19 f24 f25 f26 g_b1 g_b2_2 g_b15_2 g_b30_2 ne_b1_b2_2 ne_b1_b15_2 ne_b1_b30_2 r6 r7 r8 hix_72 hrl_72 hrv_72 hvl_72 hvs_72 nn41_72 hq41_72) hZ (hw _ (List.mem_of_getElem? (i := 39) rfl)) (hw _ (List.mem_of_getElem? (i := 2) rfl)) (by decide) (by decide)) q28a q28c (g := (mkF m 72 #[.val (.int p0), .val (.int p1), .val (.int p2), .val (.int p3), .val (.int p4), .val (.int (3 : Int32)), .val (.int i1), .val (.int i2), .val (.int i3), .val (.int i4), .val (.ref b1), .unset, .unset] [(.double (FP.i2d p2)), (.int i2), (.ref b1)])) rfl (by rw [hml]; rfl) (Steps.refl _) (argsL := [(.int i2), (.double (FP.i2d p2))]) (rest := []) (lenOf pd_4 rfl) rfl (by show 2 * 0 + _ ≤ _; exact Nat.le_of_eq rfl) (hb hby at_72) (fun _ _ => ⟨rfl, rfl, (by decide : 4 + 0 ≤ _), (by decide : 16 + 0 ≤ _)⟩)
  dsimp only [Pt.U, Pt.locs, Pt.cells, Pt.slots] at X28 l28 y28 z28 st28 hQ28
  subst l28 y28 z28
  obtain ⟨rfl, N28q, K28q, f29, f30, f31, f32, f33, f34, f35, f36⟩ := hQ28
  have N28 := Fr.app N18 N28q
  have f37 := f19.keep K28q
  have f38 := f20.keep K28q (own_niS ne_b1_b2_2 own_ni0)
  have f39 := f21.keep K28q (own_niS ne_b1_b2_2 own_ni0)
  have f40 := f22.keep K28q (own_niS ne_b1_b2_2 own_ni0)
  have f41 := f23.keep K28q (own_niS ne_b1_b2_2 own_ni0)
  have f42 := f25.keep K28q (own_niS (Ne.symm r6) own_ni0)
  have f43 := f26.keep K28q (own_niS (Ne.symm r7) own_ni0)
  have K28 : Keep h0 T28.heap [] := K18.trans K28q (own_allS (Or.inr sz_b2_2) own_all0)
  have Zs28 := Nat.le_trans Zs18 K28q.1
  obtain ⟨cq44, kq44, q44a, q44b, q44c⟩ := isOf hZ rfl f29
  obtain ⟨_, _, ⟨T44, L44, k44, n44⟩, -, X44, ⟨Lc44, hQ44, l44, y44, z44⟩, st44⟩ := X28.virtualBack hx (y := (⟨"com/example/leeway/leeway/lp/SparseColumn", "add", "(ID)V"⟩ : MethodName)) (z := (⟨"com/example/leeway/leeway/lp/SparseColumn", "add", "(ID)V"⟩ : MethodName)) hown (mvT hZ (hw _ (List.mem_of_getElem? (i := 35) rfl))) (mvT hZ (hw _ (List.mem_of_getElem? (i := 36) rfl))) (notFace_of_selects (args := #[]) (mvT hZ (hw _ (List.mem_of_getElem? (i := 38) rfl)))) (mvT hZ (hw _ (List.mem_of_getElem? (i := 38) rfl))) (mvT hZ (hw _ (List.mem_of_getElem? (i := 37) rfl))) (by decide) (backOf (W := 0) (addN1 l Z a0 hw [] b1 b2_2 b15_2 b30_2 k2_2 k15_2 k30_2 i1 (0 : Int32) (0 : Int32) (0 : Int32) U2 M1 U3 M3 i3 (FP.i2d p3) x3 y3 T28.heap n0 Zs28 f30 f31 f32 f33 f29 f34 f35 f36 g_b1 g_b2_2 g_b15_2 g_b30_2 ne_b1_b2_2 ne_b1_b15_2 ne_b1_b30_2 r6 r7 r8 hix_87 hrl_87 hrv_87 hvl_87 hll_87 hls_87 hvs_87 nn41_87 hq41_87) hZ (hw _ (List.mem_of_getElem? (i := 39) rfl)) (hw _ (List.mem_of_getElem? (i := 2) rfl)) (by decide) (by decide)) q44a q44c (g := (mkF m 87 #[.val (.int p0), .val (.int p1), .val (.int p2), .val (.int p3), .val (.int p4), .val (.int (3 : Int32)), .val (.int i1), .val (.int i2), .val (.int i3), .val (.int i4), .val (.ref b1), .unset, .unset] [(.double (FP.i2d p3)), (.int i3), (.ref b1)])) rfl (by rw [hml]; rfl) (Steps.refl _) (argsL := [(.int i3), (.double (FP.i2d p3))]) (rest := []) (lenOf pd_4 rfl) rfl (by show 2 * 0 + _ ≤ _; exact Nat.le_of_eq rfl) (hb hby at_87) (fun _ _ => ⟨rfl, rfl, (by decide : 4 + 0 ≤ _), (by decide : 16 + 0 ≤ _)⟩)
  dsimp only [Pt.U, Pt.locs, Pt.cells, Pt.slots] at X44 l44 y44 z44 st44 hQ44
  subst l44 y44 z44
  obtain ⟨rfl, N44q, K44q, f45, f46, f47, f48, f49, f50, f51, f52⟩ := hQ44
  have N44 := Fr.app N28 N44q
  have f53 := f29.keep K44q
  have K44 : Keep h0 T44.heap [] := K28.trans K44q (own_allS (Or.inr sz_b15_2) (own_allS (Or.inr sz_b1) (own_allS (Or.inr sz_b30_2) (own_allS (Or.inr sz_b2_2) own_all0))))
  have Zs44 := Nat.le_trans Zs28 K44q.1
  obtain ⟨cq54, kq54, q54a, q54b, q54c⟩ := isOf hZ rfl f45
  obtain ⟨_, _, ⟨T54, L54, k54, n54⟩, -, X54, ⟨Lc54, hQ54, l54, y54, z54⟩, st54⟩ := X44.virtualBack hx (y := (⟨"com/example/leeway/leeway/lp/SparseColumn", "clear", "()V"⟩ : MethodName)) (z := (⟨"com/example/leeway/leeway/lp/SparseColumn", "clear", "()V"⟩ : MethodName)) hown (mvT hZ (hw _ (List.mem_of_getElem? (i := 18) rfl))) (mvT hZ (hw _ (List.mem_of_getElem? (i := 19) rfl))) (notFace_of_selects (args := #[]) (mvT hZ (hw _ (List.mem_of_getElem? (i := 21) rfl)))) (mvT hZ (hw _ (List.mem_of_getElem? (i := 21) rfl))) (mvT hZ (hw _ (List.mem_of_getElem? (i := 20) rfl))) (by decide) (backOf (W := 0) (clr2 l Z a0 hw [] b1 b2_2 b15_2 b30_2 k2_2 k15_2 k30_2 i1 i3 (0 : Int32) (0 : Int32) U3 M3 ([(.double (0 : UInt64)), (.double (0 : UInt64)), (.double (0 : UInt64)), (.double (0 : UInt64))] : List Value) ([(.int (0 : Int32)), (.int (0 : Int32)), (.int (0 : Int32)), (.int (0 : Int32))] : List Value) T44.heap n0 Zs44 f46 f47 f48 f49 f45 f50 f51 f52 g_b1 g_b2_2 g_b15_2 g_b30_2 ne_b1_b2_2 ne_b1_b15_2 ne_b1_b30_2 r6 r7 r8 hx0_92 hv0_92 hl0_92 hx1_92 hv1_92 hl1_92 hvs_92 hls_92) hZ (hw _ (List.mem_of_getElem? (i := 22) rfl)) (hw _ (List.mem_of_getElem? (i := 2) rfl)) (by decide) (by decide)) q54a q54c (g := (mkF m 92 #[.val (.int p0), .val (.int p1), .val (.int p2), .val (.int p3), .val (.int p4), .val (.int (3 : Int32)), .val (.int i1), .val (.int i2), .val (.int i3), .val (.int i4), .val (.ref b1), .unset, .unset] [(.ref b1)])) rfl (by rw [hml]; rfl) (Steps.refl _) (argsL := []) (rest := []) (lenOf pd_1 rfl) rfl (by show 2 * 0 + _ ≤ _; exact Nat.le_of_eq rfl) (hb hby at_92) (fun _ _ => ⟨rfl, rfl, (by decide : 4 + 0 ≤ _), (by decide : 16 + 0 ≤ _)⟩)
  dsimp only [Pt.U, Pt.locs, Pt.cells, Pt.slots] at X54 l54 y54 z54 st54 hQ54
  subst l54 y54 z54
  obtain ⟨rfl, N54q, K54q, f55, f56, f57, f58, f59, f60, f61, f62⟩ := hQ54
  have N54 := Fr.app N44 N54q
  have f63 := f45.keep K54q
  have f64 := f52.keep K54q (own_niS (Ne.symm r7) (own_niS (Ne.symm r8) (own_niS (Ne.symm ne_b1_b30_2) own_ni0)))
  have K54 : Keep h0 T54.heap [] := K44.trans K54q (own_allS (Or.inr sz_b2_2) (own_allS (Or.inr sz_b15_2) (own_allS (Or.inr sz_b1) own_all0)))
  have Zs54 := Nat.le_trans Zs44 K54q.1
  obtain ⟨cq65, kq65, q65a, q65b, q65c⟩ := isOf hZ rfl f55
  obtain ⟨_, _, ⟨T65, L65, k65, n65⟩, -, X65, ⟨Lc65, hQ65, l65, y65, z65⟩, st65⟩ := X54.virtualBack hx (y := (⟨"com/example/leeway/leeway/lp/SparseColumn", "values", "()[D"⟩ : MethodName)) (z := (⟨"com/example/leeway/leeway/lp/SparseColumn", "values", "()[D"⟩ : MethodName)) hown (mvT hZ (hw _ (List.mem_of_getElem? (i := 25) rfl))) (mvT hZ (hw _ (List.mem_of_getElem? (i := 26) rfl))) (notFace_of_selects (args := #[]) (mvT hZ (hw _ (List.mem_of_getElem? (i := 28) rfl)))) (mvT hZ (hw _ (List.mem_of_getElem? (i := 28) rfl))) (mvT hZ (hw _ (List.mem_of_getElem? (i := 27) rfl))) (by decide) (backOf (W := 0) (gv l Z a0 hw [] b1 b2_2 b15_2 b30_2 k2_2 k15_2 k30_2 i1 i3 (0 : Int32) (0 : Int32) ([(.double (0 : UInt64)), (.double (0 : UInt64)), (.double (0 : UInt64)), (.double (0 : UInt64))] : List Value) ([(.int (0 : Int32)), (.int (0 : Int32)), (.int (0 : Int32)), (.int (0 : Int32))] : List Value) (0 : Int32) T54.heap n0 Zs54 f56 f57 f58 f59 f55 f60 f61 f62) hZ (hw _ (List.mem_of_getElem? (i := 29) rfl)) (hw _ (List.mem_of_getElem? (i := 2) rfl)) (by decide) (by decide)) q65a q65c (g := (mkF m 97 #[.val (.int p0), .val (.int p1), .val (.int p2), .val (.int p3), .val (.int p4), .val (.int (3 : Int32)), .val (.int i1), .val (.int i2), .val (.int i3), .val (.int i4), .val (.ref b1), .unset, .unset] [(.ref b1)])) rfl (by rw [hml]; rfl) (Steps.refl _) (argsL := []) (rest := []) (lenOf pd_2 rfl) rfl (by show 2 * 0 + _ ≤ _; exact Nat.le_of_eq rfl) (hb hby at_97) (fun _ _ => ⟨rfl, rfl, (by decide : 4 + 0 ≤ _), (by decide : 16 + 0 ≤ _)⟩)
  dsimp only [Pt.U, Pt.locs, Pt.cells, Pt.slots] at X65 l65 y65 z65 st65 hQ65
  subst l65 y65 z65
  obtain ⟨rfl, N65q, eh65⟩ := hQ65
  have N65 := Fr.app N54 N65q
  have e65 : T65.heap = T54.heap := eh65
  obtain ⟨cq66, kq66, q66a, q66b, q66c⟩ := isOf hZ e65 f55
  obtain ⟨_, _, ⟨T66, L66, k66, n66⟩, -, X66, ⟨Lc66, hQ66, l66, y66, z66⟩, st66⟩ := X65.virtualBack hx (y := (⟨"com/example/leeway/leeway/lp/SparseColumn", "count", "()I"⟩ : MethodName)) (z := (⟨"com/example/leeway/leeway/lp/SparseColumn", "count", "()I"⟩ : MethodName)) hown (mvT hZ (hw _ (List.mem_of_getElem? (i := 30) rfl))) (mvT hZ (hw _ (List.mem_of_getElem? (i := 31) rfl))) (notFace_of_selects (args := #[]) (mvT hZ (hw _ (List.mem_of_getElem? (i := 33) rfl)))) (mvT hZ (hw _ (List.mem_of_getElem? (i := 33) rfl))) (mvT hZ (hw _ (List.mem_of_getElem? (i := 32) rfl))) (by decide) (backOf (W := 0) (gc l Z a0 hw [] b1 b2_2 b15_2 b30_2 k2_2 k15_2 k30_2 i1 i3 (0 : Int32) (0 : Int32) ([(.double (0 : UInt64)), (.double (0 : UInt64)), (.double (0 : UInt64)), (.double (0 : UInt64))] : List Value) ([(.int (0 : Int32)), (.int (0 : Int32)), (.int (0 : Int32)), (.int (0 : Int32))] : List Value) (0 : Int32) T54.heap n0 Zs54 f56 f57 f58 f59 f55 f60 f61 f62) hZ (hw _ (List.mem_of_getElem? (i := 34) rfl)) (hw _ (List.mem_of_getElem? (i := 2) rfl)) (by decide) (by decide)) q66a q66c (g := (mkF m 104 #[.val (.int p0), .val (.int p1), .val (.int p2), .val (.int p3), .val (.int p4), .val (.int (3 : Int32)), .val (.int i1), .val (.int i2), .val (.int i3), .val (.int i4), .val (.ref b1), .val (.ref b2_2), .unset] [(.ref b1)])) rfl (by rw [hml]; rfl) (Steps.refl _) (argsL := []) (rest := []) (lenOf pd_3 rfl) rfl (by show 2 * 0 + _ ≤ _; exact Nat.le_of_eq rfl) (hb hby at_104) (fun _ _ => ⟨rfl, e65, (by decide : 4 + 0 ≤ _), (by decide : 16 + 0 ≤ _)⟩)
  dsimp only [Pt.U, Pt.locs, Pt.cells, Pt.slots] at X66 l66 y66 z66 st66 hQ66
  subst l66 y66 z66
  obtain ⟨rfl, N66q, eh66⟩ := hQ66
  have N66 := Fr.app N65 N66q
  have e66 : T66.heap = T54.heap := eh66
  obtain ⟨cq67, Arq67, -, Sq67, -, Hq67, -⟩ := id f60
  obtain ⟨cq68, Arq68, -, Sq68, -, Hq68, -⟩ := id f60
  obtain ⟨cq69, Arq69, -, Sq69, -, Hq69, -⟩ := id f60
  obtain ⟨cq70, Arq70, -, Sq70, -, Hq70, -⟩ := id f60
  obtain ⟨cq71, kq71, q71a, q71b, q71c⟩ := isOf hZ e66 f55
  obtain ⟨_, _, ⟨T71, L71, k71, n71⟩, -, X71, ⟨Lc71, hQ71, l71, y71, z71⟩, st71⟩ := X66.virtualBack hx (y := (⟨"com/example/leeway/leeway/lp/SparseColumn", "add", "(ID)V"⟩ : MethodName)) (z := (⟨"com/example/leeway/leeway/lp/SparseColumn", "add", "(ID)V"⟩ : MethodName)) hown (mvT hZ (hw _ (List.mem_of_getElem? (i := 35) rfl))) (mvT hZ (hw _ (List.mem_of_getElem? (i := 36) rfl))) (notFace_of_selects (args := #[]) (mvT hZ (hw _ (List.mem_of_getElem? (i := 38) rfl)))) (mvT hZ (hw _ (List.mem_of_getElem? (i := 38) rfl))) (mvT hZ (hw _ (List.mem_of_getElem? (i := 37) rfl))) (by decide) (backOf (W := 0) (addN0 l Z a0 hw [] b1 b2_2 b15_2 b30_2 k2_2 k15_2 k30_2 i1 i3 (0 : Int32) (0 : Int32) ([(.double (0 : UInt64)), (.double (0 : UInt64)), (.double (0 : UInt64)), (.double (0 : UInt64))] : List Value) ([(.int (0 : Int32)), (.int (0 : Int32)), (.int (0 : Int32)), (.int (0 : Int32))] : List Value) U9 M9 i4 (FP.i2d p4) (0 : UInt64) y9 T54.heap n0 Zs54 f56 f57 f58 f59 f55 f60 f61 f62 g_b1 g_b2_2 g_b15_2 g_b30_2 ne_b1_b2_2 ne_b1_b15_2 ne_b1_b30_2 r6 r7 r8 hix_160 hrl_160 hrv_160 hvl_160 hll_160 hls_160 hvs_160 nn41_160 hq41_160) hZ (hw _ (List.mem_of_getElem? (i := 39) rfl)) (hw _ (List.mem_of_getElem? (i := 2) rfl)) (by decide) (by decide)) q71a q71c (g := (mkF m 160 #[.val (.int p0), .val (.int p1), .val (.int p2), .val (.int p3), .val (.int p4), .val (.int (3 : Int32)), .val (.int i1), .val (.int i2), .val (.int i3), .val (.int i4), .val (.ref b1), .val (.ref b2_2), .val (.int (1 : Int32))] [(.double (FP.i2d p4)), (.int i4), (.ref b1)])) rfl (by rw [hml]; rfl) (Steps.refl _) (argsL := [(.int i4), (.double (FP.i2d p4))]) (rest := []) (lenOf pd_4 rfl) rfl (by show 2 * 0 + _ ≤ _; exact Nat.le_of_eq rfl) (hb hby at_160) (fun _ _ => ⟨rfl, e66, (by decide : 4 + 0 ≤ _), (by decide : 16 + 0 ≤ _)⟩)
  dsimp only [Pt.U, Pt.locs, Pt.cells, Pt.slots] at X71 l71 y71 z71 st71 hQ71
  subst l71 y71 z71
  obtain ⟨rfl, N71q, K71q, f72, f73, f74, f75, f76, f77, f78, f79⟩ := hQ71
  have N71 := Fr.app N66 N71q
  have f80 := f55.keep K71q
  have K71 : Keep h0 T71.heap [] := K54.trans K71q (own_allS (Or.inr sz_b15_2) (own_allS (Or.inr sz_b1) (own_allS (Or.inr sz_b30_2) (own_allS (Or.inr sz_b2_2) own_all0))))
  have Zs71 := Nat.le_trans Zs54 K71q.1
  obtain ⟨cq81, kq81, q81a, q81b, q81c⟩ := isOf hZ rfl f72
  obtain ⟨_, _, ⟨T81, L81, k81, n81⟩, -, X81, ⟨Lc81, hQ81, l81, y81, z81⟩, st81⟩ := X71.virtualBack hx (y := (⟨"com/example/leeway/leeway/lp/SparseColumn", "values", "()[D"⟩ : MethodName)) (z := (⟨"com/example/leeway/leeway/lp/SparseColumn", "values", "()[D"⟩ : MethodName)) hown (mvT hZ (hw _ (List.mem_of_getElem? (i := 25) rfl))) (mvT hZ (hw _ (List.mem_of_getElem? (i := 26) rfl))) (notFace_of_selects (args := #[]) (mvT hZ (hw _ (List.mem_of_getElem? (i := 28) rfl)))) (mvT hZ (hw _ (List.mem_of_getElem? (i := 28) rfl))) (mvT hZ (hw _ (List.mem_of_getElem? (i := 27) rfl))) (by decide) (backOf (W := 0) (gv l Z a0 hw [] b1 b2_2 b15_2 b30_2 k2_2 k15_2 k30_2 i4 i3 (0 : Int32) (0 : Int32) U9 M9 (1 : Int32) T71.heap n0 Zs71 f73 f74 f75 f76 f72 f77 f78 f79) hZ (hw _ (List.mem_of_getElem? (i := 29) rfl)) (hw _ (List.mem_of_getElem? (i := 2) rfl)) (by decide) (by decide)) q81a q81c (g := (mkF m 165 #[.val (.int p0), .val (.int p1), .val (.int p2), .val (.int p3), .val (.int p4), .val (.int (3 : Int32)), .val (.int i1), .val (.int i2), .val (.int i3), .val (.int i4), .val (.ref b1), .val (.ref b2_2), .val (.int (1 : Int32))] [(.ref b1)])) rfl (by rw [hml]; rfl) (Steps.refl _) (argsL := []) (rest := []) (lenOf pd_2 rfl) rfl (by show 2 * 0 + _ ≤ _; exact Nat.le_of_eq rfl) (hb hby at_165) (fun _ _ => ⟨rfl, rfl, (by decide : 4 + 0 ≤ _), (by decide : 16 + 0 ≤ _)⟩)
  dsimp only [Pt.U, Pt.locs, Pt.cells, Pt.slots] at X81 l81 y81 z81 st81 hQ81
  subst l81 y81 z81
  obtain ⟨rfl, N81q, eh81⟩ := hQ81
  have N81 := Fr.app N71 N81q
  have e81 : T81.heap = T71.heap := eh81
  obtain ⟨cq82, kq82, q82a, q82b, q82c⟩ := isOf hZ e81 f72
  obtain ⟨_, _, ⟨T82, L82, k82, n82⟩, -, X82, ⟨Lc82, hQ82, l82, y82, z82⟩, st82⟩ := X81.virtualBack hx (y := (⟨"com/example/leeway/leeway/lp/SparseColumn", "count", "()I"⟩ : MethodName)) (z := (⟨"com/example/leeway/leeway/lp/SparseColumn", "count", "()I"⟩ : MethodName)) hown (mvT hZ (hw _ (List.mem_of_getElem? (i := 30) rfl))) (mvT hZ (hw _ (List.mem_of_getElem? (i := 31) rfl))) (notFace_of_selects (args := #[]) (mvT hZ (hw _ (List.mem_of_getElem? (i := 33) rfl)))) (mvT hZ (hw _ (List.mem_of_getElem? (i := 33) rfl))) (mvT hZ (hw _ (List.mem_of_getElem? (i := 32) rfl))) (by decide) (backOf (W := 0) (gc l Z a0 hw [] b1 b2_2 b15_2 b30_2 k2_2 k15_2 k30_2 i4 i3 (0 : Int32) (0 : Int32) U9 M9 (1 : Int32) T71.heap n0 Zs71 f73 f74 f75 f76 f72 f77 f78 f79) hZ (hw _ (List.mem_of_getElem? (i := 34) rfl)) (hw _ (List.mem_of_getElem? (i := 2) rfl)) (by decide) (by decide)) q82a q82c (g := (mkF m 177 #[.val (.int p0), .val (.int p1), .val (.int p2), .val (.int p3), .val (.int p4), .val (.int (3 : Int32)), .val (.int i1), .val (.int i2), .val (.int i3), .val (.int i4), .val (.ref b1), .val (.ref b2_2), .val (.int (1 : Int32))] [(.ref b1)])) rfl (by rw [hml]; rfl) (Steps.refl _) (argsL := []) (rest := []) (lenOf pd_3 rfl) rfl (by show 2 * 0 + _ ≤ _; exact Nat.le_of_eq rfl) (hb hby at_177) (fun _ _ => ⟨rfl, e81, (by decide : 4 + 0 ≤ _), (by decide : 16 + 0 ≤ _)⟩)
  dsimp only [Pt.U, Pt.locs, Pt.cells, Pt.slots] at X82 l82 y82 z82 st82 hQ82
  subst l82 y82 z82
  obtain ⟨rfl, N82q, eh82⟩ := hQ82
  have N82 := Fr.app N81 N82q
  have e82 : T82.heap = T71.heap := eh82
  obtain ⟨cq83, kq83, q83a, q83b, q83c⟩ := isOf hZ e82 f72
  obtain ⟨_, _, ⟨T83, L83, k83, n83⟩, -, X83, ⟨Lc83, hQ83, l83, y83, z83⟩, st83⟩ := X82.virtualBack hx (y := (⟨"com/example/leeway/leeway/lp/SparseColumn", "rows", "()[I"⟩ : MethodName)) (z := (⟨"com/example/leeway/leeway/lp/SparseColumn", "rows", "()[I"⟩ : MethodName)) hown (mvT hZ (hw _ (List.mem_of_getElem? (i := 40) rfl))) (mvT hZ (hw _ (List.mem_of_getElem? (i := 41) rfl))) (notFace_of_selects (args := #[]) (mvT hZ (hw _ (List.mem_of_getElem? (i := 43) rfl)))) (mvT hZ (hw _ (List.mem_of_getElem? (i := 43) rfl))) (mvT hZ (hw _ (List.mem_of_getElem? (i := 42) rfl))) (by decide) (backOf (W := 0) (gr l Z a0 hw [] b1 b2_2 b15_2 b30_2 k2_2 k15_2 k30_2 i4 i3 (0 : Int32) (0 : Int32) U9 M9 (1 : Int32) T71.heap n0 Zs71 f73 f74 f75 f76 f72 f77 f78 f79) hZ (hw _ (List.mem_of_getElem? (i := 44) rfl)) (hw _ (List.mem_of_getElem? (i := 2) rfl)) (by decide) (by decide)) q83a q83c (g := (mkF m 186 #[.val (.int p0), .val (.int p1), .val (.int p2), .val (.int p3), .val (.int p4), .val (.int (3 : Int32)), .val (.int i1), .val (.int i2), .val (.int i3), .val (.int i4), .val (.ref b1), .val (.ref b2_2), .val (.int (1 : Int32))] [(.ref b1)])) rfl (by rw [hml]; rfl) (Steps.refl _) (argsL := []) (rest := []) (lenOf pd_5 rfl) rfl (by show 2 * 0 + _ ≤ _; exact Nat.le_of_eq rfl) (hb hby at_186) (fun _ _ => ⟨rfl, e82, (by decide : 4 + 0 ≤ _), (by decide : 16 + 0 ≤ _)⟩)
  dsimp only [Pt.U, Pt.locs, Pt.cells, Pt.slots] at X83 l83 y83 z83 st83 hQ83
  subst l83 y83 z83
  obtain ⟨rfl, N83q, eh83⟩ := hQ83
  have N83 := Fr.app N82 N83q
  have e83 : T83.heap = T71.heap := eh83
  obtain ⟨cq84, Arq84, -, Sq84, -, Hq84, -⟩ := id f79
  obtain ⟨cq85, Arq85, -, Sq85, -, Hq85, -⟩ := id f77
  obtain ⟨_, _, ⟨T86, L86, k86, n86⟩, -, X86, ⟨Lc86, hQ86, l86, y86, z86⟩, st86⟩ := Jvm.LawKit.callS X83 hx (y := (⟨"com/example/leeway/leeway/lp/SparseColumnClearPinLaw", "zeroUnless", "([DII)Z"⟩ : MethodName)) hown (mvT hZ (hw _ (List.mem_of_getElem? (i := 45) rfl))) (mvT hZ (hw _ (List.mem_of_getElem? (i := 46) rfl))) (mvT hZ (hw _ (List.mem_of_getElem? (i := 47) rfl))) (mvT hZ (hw _ (List.mem_of_getElem? (i := 48) rfl))) (by decide) (backOf (W := 0) (zu l Z a0 hw [] b2_2 k2_2 U9 (0 : Int32) i4 T71.heap n0 Zs71 f77 hix_225 hrd_225 hd9_225) hZ (hw _ (List.mem_of_getElem? (i := 48) rfl)) (hw _ (List.mem_of_getElem? (i := 47) rfl)) (by decide) (by decide)) (g := (mkF m 225 #[.val (.int p0), .val (.int p1), .val (.int p2), .val (.int p3), .val (.int p4), .val (.int (3 : Int32)), .val (.int i1), .val (.int i2), .val (.int i3), .val (.int i4), .val (.ref b1), .val (.ref b2_2), .val (.int (1 : Int32))] [(.int i4), (.int (0 : Int32)), (.ref b2_2)])) rfl (by rw [hml]; rfl) (argsL := [(.ref b2_2), (.int (0 : Int32)), (.int i4)]) (rest := []) (lenOf pd_6 rfl) rfl (by show 2 * 0 + _ ≤ _; exact Nat.le_of_eq rfl) (hb hby at_225) (fun _ _ => ⟨rfl, e83, (by decide : 4 + 0 ≤ _), (by decide : 16 + 0 ≤ _)⟩)
  dsimp only [Pt.U, Pt.locs, Pt.cells, Pt.slots] at X86 l86 y86 z86 st86 hQ86
  subst l86 y86 z86
  obtain ⟨rfl, N86q, eh86⟩ := hQ86
  have N86 := Fr.app N83 N86q
  have e86 : T86.heap = T71.heap := eh86
  obtain ⟨_, _, ⟨T87, L87, k87, n87⟩, -, X87, ⟨Lc87, hQ87, l87, y87, z87⟩, st87⟩ := Jvm.LawKit.callS X86 hx (y := (⟨"com/example/leeway/leeway/lp/SparseColumnClearPinLaw", "zeroUnless", "([DII)Z"⟩ : MethodName)) hown (mvT hZ (hw _ (List.mem_of_getElem? (i := 45) rfl))) (mvT hZ (hw _ (List.mem_of_getElem? (i := 46) rfl))) (mvT hZ (hw _ (List.mem_of_getElem? (i := 47) rfl))) (mvT hZ (hw _ (List.mem_of_getElem? (i := 48) rfl))) (by decide) (backOf (W := 0) (zu l Z a0 hw [] b2_2 k2_2 U9 (1 : Int32) i4 T71.heap n0 Zs71 f77 hix_236 hrd_236 hd9_236) hZ (hw _ (List.mem_of_getElem? (i := 48) rfl)) (hw _ (List.mem_of_getElem? (i := 47) rfl)) (by decide) (by decide)) (g := (mkF m 236 #[.val (.int p0), .val (.int p1), .val (.int p2), .val (.int p3), .val (.int p4), .val (.int (3 : Int32)), .val (.int i1), .val (.int i2), .val (.int i3), .val (.int i4), .val (.ref b1), .val (.ref b2_2), .val (.int (1 : Int32))] [(.int i4), (.int (1 : Int32)), (.ref b2_2)])) rfl (by rw [hml]; rfl) (argsL := [(.ref b2_2), (.int (1 : Int32)), (.int i4)]) (rest := []) (lenOf pd_6 rfl) rfl (by show 2 * 0 + _ ≤ _; exact Nat.le_of_eq rfl) (hb hby at_236) (fun _ _ => ⟨rfl, e86, (by decide : 4 + 0 ≤ _), (by decide : 16 + 0 ≤ _)⟩)
  dsimp only [Pt.U, Pt.locs, Pt.cells, Pt.slots] at X87 l87 y87 z87 st87 hQ87
  subst l87 y87 z87
  obtain ⟨rfl, N87q, eh87⟩ := hQ87
  have N87 := Fr.app N86 N87q
  have e87 : T87.heap = T71.heap := eh87
  obtain ⟨_, _, ⟨T88, L88, k88, n88⟩, -, X88, ⟨Lc88, hQ88, l88, y88, z88⟩, st88⟩ := Jvm.LawKit.callS X87 hx (y := (⟨"com/example/leeway/leeway/lp/SparseColumnClearPinLaw", "zeroUnless", "([DII)Z"⟩ : MethodName)) hown (mvT hZ (hw _ (List.mem_of_getElem? (i := 45) rfl))) (mvT hZ (hw _ (List.mem_of_getElem? (i := 46) rfl))) (mvT hZ (hw _ (List.mem_of_getElem? (i := 47) rfl))) (mvT hZ (hw _ (List.mem_of_getElem? (i := 48) rfl))) (by decide) (backOf (W := 0) (zu l Z a0 hw [] b2_2 k2_2 U9 (2 : Int32) i4 T71.heap n0 Zs71 f77 hix_247 hrd_247 hd9_247) hZ (hw _ (List.mem_of_getElem? (i := 48) rfl)) (hw _ (List.mem_of_getElem? (i := 47) rfl)) (by decide) (by decide)) (g := (mkF m 247 #[.val (.int p0), .val (.int p1), .val (.int p2), .val (.int p3), .val (.int p4), .val (.int (3 : Int32)), .val (.int i1), .val (.int i2), .val (.int i3), .val (.int i4), .val (.ref b1), .val (.ref b2_2), .val (.int (1 : Int32))] [(.int i4), (.int (2 : Int32)), (.ref b2_2)])) rfl (by rw [hml]; rfl) (argsL := [(.ref b2_2), (.int (2 : Int32)), (.int i4)]) (rest := []) (lenOf pd_6 rfl) rfl (by show 2 * 0 + _ ≤ _; exact Nat.le_of_eq rfl) (hb hby at_247) (fun _ _ => ⟨rfl, e87, (by decide : 4 + 0 ≤ _), (by decide : 16 + 0 ≤ _)⟩)
  dsimp only [Pt.U, Pt.locs, Pt.cells, Pt.slots] at X88 l88 y88 z88 st88 hQ88
  subst l88 y88 z88
  obtain ⟨rfl, N88q, eh88⟩ := hQ88
  have N88 := Fr.app N87 N88q
  have e88 : T88.heap = T71.heap := eh88
  obtain ⟨_, _, ⟨T89, L89, k89, n89⟩, -, X89, ⟨Lc89, hQ89, l89, y89, z89⟩, st89⟩ := Jvm.LawKit.callS X88 hx (y := (⟨"com/example/leeway/leeway/lp/SparseColumnClearPinLaw", "zeroUnless", "([DII)Z"⟩ : MethodName)) hown (mvT hZ (hw _ (List.mem_of_getElem? (i := 45) rfl))) (mvT hZ (hw _ (List.mem_of_getElem? (i := 46) rfl))) (mvT hZ (hw _ (List.mem_of_getElem? (i := 47) rfl))) (mvT hZ (hw _ (List.mem_of_getElem? (i := 48) rfl))) (by decide) (backOf (W := 0) (zu l Z a0 hw [] b2_2 k2_2 U9 (3 : Int32) i4 T71.heap n0 Zs71 f77 hix_258 hrd_258 hd9_258) hZ (hw _ (List.mem_of_getElem? (i := 48) rfl)) (hw _ (List.mem_of_getElem? (i := 47) rfl)) (by decide) (by decide)) (g := (mkF m 258 #[.val (.int p0), .val (.int p1), .val (.int p2), .val (.int p3), .val (.int p4), .val (.int (3 : Int32)), .val (.int i1), .val (.int i2), .val (.int i3), .val (.int i4), .val (.ref b1), .val (.ref b2_2), .val (.int (1 : Int32))] [(.int i4), (.int (3 : Int32)), (.ref b2_2)])) rfl (by rw [hml]; rfl) (argsL := [(.ref b2_2), (.int (3 : Int32)), (.int i4)]) (rest := []) (lenOf pd_6 rfl) rfl (by show 2 * 0 + _ ≤ _; exact Nat.le_of_eq rfl) (hb hby at_258) (fun _ _ => ⟨rfl, e88, (by decide : 4 + 0 ≤ _), (by decide : 16 + 0 ≤ _)⟩)
  dsimp only [Pt.U, Pt.locs, Pt.cells, Pt.slots] at X89 l89 y89 z89 st89 hQ89
  subst l89 y89 z89
  obtain ⟨rfl, N89q, eh89⟩ := hQ89
  have N89 := Fr.app N88 N89q
  have e89 : T89.heap = T71.heap := eh89
  obtain ⟨fs, hr, hrun, hended, hW, hsame⟩ := X89.leave (v := some (.int (1 : Int32))) (fun h => by rw [Bd.returns] at h; cases h)
  refine ⟨_, _, pre0 _ ?_, hrun, hended, _, _, rfl, ?_, ⟨_, rfl⟩, hW, hsame.mono (by decide) (by decide)⟩
  · show Steps p.tables e below (s₁.setTop (mkF m 0 #[.val (.int p0), .val (.int p1), .val (.int p2), .val (.int p3), .val (.int p4), .unset, .unset, .unset, .unset, .unset, .unset, .unset, .unset] [])) _
    refine XS.iloadN X0.here hx rfl (hb hby at_0) rfl ?_
    refine XS.iconst X0.here hx rfl (hb hby at_1) ?_
    refine XS.iand X0.here hx rfl (hb hby at_2) rfl ?_
    show Steps p.tables e below (s₁.setTop (mkF m 3 #[.val (.int p0), .val (.int p1), .val (.int p2), .val (.int p3), .val (.int p4), .unset, .unset, .unset, .unset, .unset, .unset, .unset, .unset] [(.int (p0 &&& (3 : Int32)))])) _
    rw [hv2]
    show Steps p.tables e below (s₁.setTop (mkF m 3 #[.val (.int p0), .val (.int p1), .val (.int p2), .val (.int p3), .val (.int p4), .unset, .unset, .unset, .unset, .unset, .unset, .unset, .unset] [(.int (3 : Int32))])) _
    refine XS.istore X0.here hx rfl (hb hby at_3) rfl (l' := #[.val (.int p0), .val (.int p1), .val (.int p2), .val (.int p3), .val (.int p4), .val (.int (3 : Int32)), .unset, .unset, .unset, .unset, .unset, .unset, .unset]) rfl ?_
    show Steps p.tables e below (s₁.setTop (mkF m 5 #[.val (.int p0), .val (.int p1), .val (.int p2), .val (.int p3), .val (.int p4), .val (.int (3 : Int32)), .unset, .unset, .unset, .unset, .unset, .unset, .unset] [])) _
    refine XS.iloadN X0.here hx rfl (hb hby at_5) rfl ?_
    refine XS.iconst X0.here hx rfl (hb hby at_6) ?_
    refine XS.iushr X0.here hx rfl (hb hby at_7) rfl ?_
    refine XS.iconst X0.here hx rfl (hb hby at_8) ?_
    refine XS.iand X0.here hx rfl (hb hby at_9) rfl ?_
    show Steps p.tables e below (s₁.setTop (mkF m 10 #[.val (.int p0), .val (.int p1), .val (.int p2), .val (.int p3), .val (.int p4), .val (.int (3 : Int32)), .unset, .unset, .unset, .unset, .unset, .unset, .unset] [(.int (((p0.toUInt32 >>> ((2 : Int32) &&& 31).toUInt32).toInt32) &&& (3 : Int32)))])) _
    rw [hv9]
    show Steps p.tables e below (s₁.setTop (mkF m 10 #[.val (.int p0), .val (.int p1), .val (.int p2), .val (.int p3), .val (.int p4), .val (.int (3 : Int32)), .unset, .unset, .unset, .unset, .unset, .unset, .unset] [(.int i1)])) _
    refine XS.istore X0.here hx rfl (hb hby at_10) rfl (l' := #[.val (.int p0), .val (.int p1), .val (.int p2), .val (.int p3), .val (.int p4), .val (.int (3 : Int32)), .val (.int i1), .unset, .unset, .unset, .unset, .unset, .unset]) rfl ?_
    refine XS.iloadN X0.here hx rfl (hb hby at_12) rfl ?_
    refine XS.iconst X0.here hx rfl (hb hby at_13) ?_
    refine XS.iushr X0.here hx rfl (hb hby at_14) rfl ?_
    refine XS.iconst X0.here hx rfl (hb hby at_15) ?_
    refine XS.iand X0.here hx rfl (hb hby at_16) rfl ?_
    show Steps p.tables e below (s₁.setTop (mkF m 17 #[.val (.int p0), .val (.int p1), .val (.int p2), .val (.int p3), .val (.int p4), .val (.int (3 : Int32)), .val (.int i1), .unset, .unset, .unset, .unset, .unset, .unset] [(.int (((p0.toUInt32 >>> ((4 : Int32) &&& 31).toUInt32).toInt32) &&& (3 : Int32)))])) _
    rw [hv16]
    show Steps p.tables e below (s₁.setTop (mkF m 17 #[.val (.int p0), .val (.int p1), .val (.int p2), .val (.int p3), .val (.int p4), .val (.int (3 : Int32)), .val (.int i1), .unset, .unset, .unset, .unset, .unset, .unset] [(.int i2)])) _
    refine XS.istore X0.here hx rfl (hb hby at_17) rfl (l' := #[.val (.int p0), .val (.int p1), .val (.int p2), .val (.int p3), .val (.int p4), .val (.int (3 : Int32)), .val (.int i1), .val (.int i2), .unset, .unset, .unset, .unset, .unset]) rfl ?_
    refine XS.iloadN X0.here hx rfl (hb hby at_19) rfl ?_
    refine XS.bipush X0.here hx rfl (hb hby at_20) ?_
    refine XS.iushr X0.here hx rfl (hb hby at_22) rfl ?_
    refine XS.iconst X0.here hx rfl (hb hby at_23) ?_
    show Steps p.tables e below (s₁.setTop (mkF m 24 #[.val (.int p0), .val (.int p1), .val (.int p2), .val (.int p3), .val (.int p4), .val (.int (3 : Int32)), .val (.int i1), .val (.int i2), .unset, .unset, .unset, .unset, .unset] [(.int (3 : Int32)), (.int ((p0.toUInt32 >>> ((6 : Int32) &&& 31).toUInt32).toInt32))])) _
    refine XS.iand X0.here hx rfl (hb hby at_24) rfl ?_
    show Steps p.tables e below (s₁.setTop (mkF m 25 #[.val (.int p0), .val (.int p1), .val (.int p2), .val (.int p3), .val (.int p4), .val (.int (3 : Int32)), .val (.int i1), .val (.int i2), .unset, .unset, .unset, .unset, .unset] [(.int (((p0.toUInt32 >>> ((6 : Int32) &&& 31).toUInt32).toInt32) &&& (3 : Int32)))])) _
    rw [hv24]
    show Steps p.tables e below (s₁.setTop (mkF m 25 #[.val (.int p0), .val (.int p1), .val (.int p2), .val (.int p3), .val (.int p4), .val (.int (3 : Int32)), .val (.int i1), .val (.int i2), .unset, .unset, .unset, .unset, .unset] [(.int i3)])) _
    refine XS.istore X0.here hx rfl (hb hby at_25) rfl (l' := #[.val (.int p0), .val (.int p1), .val (.int p2), .val (.int p3), .val (.int p4), .val (.int (3 : Int32)), .val (.int i1), .val (.int i2), .val (.int i3), .unset, .unset, .unset, .unset]) rfl ?_
    refine XS.iloadN X0.here hx rfl (hb hby at_27) rfl ?_
    refine XS.bipush X0.here hx rfl (hb hby at_28) ?_
    refine XS.iushr X0.here hx rfl (hb hby at_30) rfl ?_
    show Steps p.tables e below (s₁.setTop (mkF m 31 #[.val (.int p0), .val (.int p1), .val (.int p2), .val (.int p3), .val (.int p4), .val (.int (3 : Int32)), .val (.int i1), .val (.int i2), .val (.int i3), .unset, .unset, .unset, .unset] [(.int ((p0.toUInt32 >>> ((8 : Int32) &&& 31).toUInt32).toInt32))])) _
    refine XS.iconst X0.here hx rfl (hb hby at_31) ?_
    refine XS.iand X0.here hx rfl (hb hby at_32) rfl ?_
    show Steps p.tables e below (s₁.setTop (mkF m 33 #[.val (.int p0), .val (.int p1), .val (.int p2), .val (.int p3), .val (.int p4), .val (.int (3 : Int32)), .val (.int i1), .val (.int i2), .val (.int i3), .unset, .unset, .unset, .unset] [(.int (((p0.toUInt32 >>> ((8 : Int32) &&& 31).toUInt32).toInt32) &&& (3 : Int32)))])) _
    rw [hv32]
    show Steps p.tables e below (s₁.setTop (mkF m 33 #[.val (.int p0), .val (.int p1), .val (.int p2), .val (.int p3), .val (.int p4), .val (.int (3 : Int32)), .val (.int i1), .val (.int i2), .val (.int i3), .unset, .unset, .unset, .unset] [(.int i4)])) _
    refine XS.istore X0.here hx rfl (hb hby at_33) rfl (l' := #[.val (.int p0), .val (.int p1), .val (.int p2), .val (.int p3), .val (.int p4), .val (.int (3 : Int32)), .val (.int i1), .val (.int i2), .val (.int i3), .val (.int i4), .unset, .unset, .unset]) rfl ?_
    refine st1 _ ?_
    show Steps p.tables e below (T1.setTop (mkF m 38 #[.val (.int p0), .val (.int p1), .val (.int p2), .val (.int p3), .val (.int p4), .val (.int (3 : Int32)), .val (.int i1), .val (.int i2), .val (.int i3), .val (.int i4), .unset, .unset, .unset] [(.ref b1)])) _
    refine XS.dup X1.here hx rfl (hb hby at_38) rfl rfl ?_
    show Steps p.tables e below (T1.setTop (mkF m 39 #[.val (.int p0), .val (.int p1), .val (.int p2), .val (.int p3), .val (.int p4), .val (.int (3 : Int32)), .val (.int i1), .val (.int i2), .val (.int i3), .val (.int i4), .unset, .unset, .unset] [(.ref b1), (.ref b1)])) _
    refine XS.iconst X1.here hx rfl (hb hby at_39) ?_
    refine st2.trans ?_
    show Steps p.tables e below (T2.setTop (mkF m 43 #[.val (.int p0), .val (.int p1), .val (.int p2), .val (.int p3), .val (.int p4), .val (.int (3 : Int32)), .val (.int i1), .val (.int i2), .val (.int i3), .val (.int i4), .unset, .unset, .unset] [(.ref b1)])) _
    refine XS.astore X2.here hx rfl (hb hby at_43) rfl rfl (l' := #[.val (.int p0), .val (.int p1), .val (.int p2), .val (.int p3), .val (.int p4), .val (.int (3 : Int32)), .val (.int i1), .val (.int i2), .val (.int i3), .val (.int i4), .val (.ref b1), .unset, .unset]) rfl ?_
    refine XS.iload X2.here hx rfl (hb hby at_45) rfl ?_
    refine XS.iconst X2.here hx rfl (hb hby at_47) ?_
    refine XS.icmpNo X2.here hx rfl (hb hby at_48) rfl (flt (by decide : ¬ ((3 : Int32) < (1 : Int32)))).1 ?_
    show Steps p.tables e below (T2.setTop (mkF m 51 #[.val (.int p0), .val (.int p1), .val (.int p2), .val (.int p3), .val (.int p4), .val (.int (3 : Int32)), .val (.int i1), .val (.int i2), .val (.int i3), .val (.int i4), .val (.ref b1), .unset, .unset] [])) _
    refine XS.aload X2.here hx rfl (hb hby at_51) rfl rfl ?_
    refine XS.iload X2.here hx rfl (hb hby at_53) rfl ?_
    refine XS.iloadN X2.here hx rfl (hb hby at_55) rfl ?_
    refine XS.i2dS X2.here hx rfl (hb hby at_56) rfl (v := (FP.i2d p1)) rfl ?_
    refine st18.trans ?_
    show Steps p.tables e below (T18.setTop (mkF m 60 #[.val (.int p0), .val (.int p1), .val (.int p2), .val (.int p3), .val (.int p4), .val (.int (3 : Int32)), .val (.int i1), .val (.int i2), .val (.int i3), .val (.int i4), .val (.ref b1), .unset, .unset] [])) _
    refine XS.iload X18.here hx rfl (hb hby at_60) rfl ?_
    show Steps p.tables e below (T18.setTop (mkF m 62 #[.val (.int p0), .val (.int p1), .val (.int p2), .val (.int p3), .val (.int p4), .val (.int (3 : Int32)), .val (.int i1), .val (.int i2), .val (.int i3), .val (.int i4), .val (.ref b1), .unset, .unset] [(.int (3 : Int32))])) _
    refine XS.iconst X18.here hx rfl (hb hby at_62) ?_
    refine XS.icmpNo X18.here hx rfl (hb hby at_63) rfl (flt (by decide : ¬ ((3 : Int32) < (2 : Int32)))).1 ?_
    refine XS.aload X18.here hx rfl (hb hby at_66) rfl rfl ?_
    refine XS.iload X18.here hx rfl (hb hby at_68) rfl ?_
    refine XS.iloadN X18.here hx rfl (hb hby at_70) rfl ?_
    refine XS.i2dS X18.here hx rfl (hb hby at_71) rfl (v := (FP.i2d p2)) rfl ?_
    show Steps p.tables e below (T18.setTop (mkF m 72 #[.val (.int p0), .val (.int p1), .val (.int p2), .val (.int p3), .val (.int p4), .val (.int (3 : Int32)), .val (.int i1), .val (.int i2), .val (.int i3), .val (.int i4), .val (.ref b1), .unset, .unset] [(.double (FP.i2d p2)), (.int i2), (.ref b1)])) _
    refine st28.trans ?_
    show Steps p.tables e below (T28.setTop (mkF m 75 #[.val (.int p0), .val (.int p1), .val (.int p2), .val (.int p3), .val (.int p4), .val (.int (3 : Int32)), .val (.int i1), .val (.int i2), .val (.int i3), .val (.int i4), .val (.ref b1), .unset, .unset] [])) _
    refine XS.iload X28.here hx rfl (hb hby at_75) rfl ?_
    refine XS.iconst X28.here hx rfl (hb hby at_77) ?_
    refine XS.icmpNo X28.here hx rfl (hb hby at_78) rfl (flt (by decide : ¬ ((3 : Int32) < (3 : Int32)))).1 ?_
    refine XS.aload X28.here hx rfl (hb hby at_81) rfl rfl ?_
    refine XS.iload X28.here hx rfl (hb hby at_83) rfl ?_
    show Steps p.tables e below (T28.setTop (mkF m 85 #[.val (.int p0), .val (.int p1), .val (.int p2), .val (.int p3), .val (.int p4), .val (.int (3 : Int32)), .val (.int i1), .val (.int i2), .val (.int i3), .val (.int i4), .val (.ref b1), .unset, .unset] [(.int i3), (.ref b1)])) _
    refine XS.iloadN X28.here hx rfl (hb hby at_85) rfl ?_
    refine XS.i2dS X28.here hx rfl (hb hby at_86) rfl (v := (FP.i2d p3)) rfl ?_
    refine st44.trans ?_
    show Steps p.tables e below (T44.setTop (mkF m 90 #[.val (.int p0), .val (.int p1), .val (.int p2), .val (.int p3), .val (.int p4), .val (.int (3 : Int32)), .val (.int i1), .val (.int i2), .val (.int i3), .val (.int i4), .val (.ref b1), .unset, .unset] [])) _
    refine XS.aload X44.here hx rfl (hb hby at_90) rfl rfl ?_
    refine st54.trans ?_
    show Steps p.tables e below (T54.setTop (mkF m 95 #[.val (.int p0), .val (.int p1), .val (.int p2), .val (.int p3), .val (.int p4), .val (.int (3 : Int32)), .val (.int i1), .val (.int i2), .val (.int i3), .val (.int i4), .val (.ref b1), .unset, .unset] [])) _
    refine XS.aload X54.here hx rfl (hb hby at_95) rfl rfl ?_
    show Steps p.tables e below (T54.setTop (mkF m 97 #[.val (.int p0), .val (.int p1), .val (.int p2), .val (.int p3), .val (.int p4), .val (.int (3 : Int32)), .val (.int i1), .val (.int i2), .val (.int i3), .val (.int i4), .val (.ref b1), .unset, .unset] [(.ref b1)])) _
    refine st65.trans ?_
    show Steps p.tables e below (T65.setTop (mkF m 100 #[.val (.int p0), .val (.int p1), .val (.int p2), .val (.int p3), .val (.int p4), .val (.int (3 : Int32)), .val (.int i1), .val (.int i2), .val (.int i3), .val (.int i4), .val (.ref b1), .unset, .unset] [(.ref b2_2)])) _
    refine XS.astore X65.here hx rfl (hb hby at_100) rfl rfl (l' := #[.val (.int p0), .val (.int p1), .val (.int p2), .val (.int p3), .val (.int p4), .val (.int (3 : Int32)), .val (.int i1), .val (.int i2), .val (.int i3), .val (.int i4), .val (.ref b1), .val (.ref b2_2), .unset]) rfl ?_
    refine XS.aload X65.here hx rfl (hb hby at_102) rfl rfl ?_
    refine st66.trans ?_
    show Steps p.tables e below (T66.setTop (mkF m 107 #[.val (.int p0), .val (.int p1), .val (.int p2), .val (.int p3), .val (.int p4), .val (.int (3 : Int32)), .val (.int i1), .val (.int i2), .val (.int i3), .val (.int i4), .val (.ref b1), .val (.ref b2_2), .unset] [(.int (0 : Int32))])) _
    refine XS.ifNo X66.here hx rfl (hb hby at_107) rfl ((if0 _ _).trans (teq (by decide : (0 : Int32) = (0 : Int32))).2) ?_
    refine XS.aload X66.here hx rfl (hb hby at_110) rfl rfl ?_
    show Steps p.tables e below (T66.setTop (mkF m 112 #[.val (.int p0), .val (.int p1), .val (.int p2), .val (.int p3), .val (.int p4), .val (.int (3 : Int32)), .val (.int i1), .val (.int i2), .val (.int i3), .val (.int i4), .val (.ref b1), .val (.ref b2_2), .unset] [(.ref b2_2)])) _
    refine XS.iconst X66.here hx rfl (hb hby at_112) ?_
    refine X66.daload hx (j := (0 : Int32)) (v := (.double (0 : UInt64))) (by rw [e66]; exact Arq67.1) (State.isArrayOf_alike hZ.alike Arq67.2.1) Arq67.2.2 (inb_of Sq67 ⟨by decide, by decide⟩) (Has.at Hq67 (inb_of Sq67 ⟨by decide, by decide⟩) rfl) (g := (mkF m 113 #[.val (.int p0), .val (.int p1), .val (.int p2), .val (.int p3), .val (.int p4), .val (.int (3 : Int32)), .val (.int i1), .val (.int i2), .val (.int i3), .val (.int i4), .val (.ref b1), .val (.ref b2_2), .unset] [(.int (0 : Int32)), (.ref b2_2)])) rfl rfl (hb hby at_113) _ ?_
    show Steps p.tables e below (T66.setTop (mkF m 114 #[.val (.int p0), .val (.int p1), .val (.int p2), .val (.int p3), .val (.int p4), .val (.int (3 : Int32)), .val (.int i1), .val (.int i2), .val (.int i3), .val (.int i4), .val (.ref b1), .val (.ref b2_2), .unset] [(.double (0 : UInt64))])) _
    refine XS.dconst0 X66.here hx rfl (hb hby at_114) (v := (0 : UInt64)) rfl ?_
    refine XS.dcmpS X66.here hx rfl (hb hby at_115) rfl (v := (0 : Int32)) hd115 ?_
    refine XS.ifNo X66.here hx rfl (hb hby at_116) rfl ((if0 _ _).trans (teq (by decide : (0 : Int32) = (0 : Int32))).2) ?_
    refine XS.aload X66.here hx rfl (hb hby at_119) rfl rfl ?_
    show Steps p.tables e below (T66.setTop (mkF m 121 #[.val (.int p0), .val (.int p1), .val (.int p2), .val (.int p3), .val (.int p4), .val (.int (3 : Int32)), .val (.int i1), .val (.int i2), .val (.int i3), .val (.int i4), .val (.ref b1), .val (.ref b2_2), .unset] [(.ref b2_2)])) _
    refine XS.iconst X66.here hx rfl (hb hby at_121) ?_
    refine X66.daload hx (j := (1 : Int32)) (v := (.double (0 : UInt64))) (by rw [e66]; exact Arq68.1) (State.isArrayOf_alike hZ.alike Arq68.2.1) Arq68.2.2 (inb_of Sq68 ⟨by decide, by decide⟩) (Has.at Hq68 (inb_of Sq68 ⟨by decide, by decide⟩) rfl) (g := (mkF m 122 #[.val (.int p0), .val (.int p1), .val (.int p2), .val (.int p3), .val (.int p4), .val (.int (3 : Int32)), .val (.int i1), .val (.int i2), .val (.int i3), .val (.int i4), .val (.ref b1), .val (.ref b2_2), .unset] [(.int (1 : Int32)), (.ref b2_2)])) rfl rfl (hb hby at_122) _ ?_
    show Steps p.tables e below (T66.setTop (mkF m 123 #[.val (.int p0), .val (.int p1), .val (.int p2), .val (.int p3), .val (.int p4), .val (.int (3 : Int32)), .val (.int i1), .val (.int i2), .val (.int i3), .val (.int i4), .val (.ref b1), .val (.ref b2_2), .unset] [(.double (0 : UInt64))])) _
    refine XS.dconst0 X66.here hx rfl (hb hby at_123) (v := (0 : UInt64)) rfl ?_
    refine XS.dcmpS X66.here hx rfl (hb hby at_124) rfl (v := (0 : Int32)) hd124 ?_
    refine XS.ifNo X66.here hx rfl (hb hby at_125) rfl ((if0 _ _).trans (teq (by decide : (0 : Int32) = (0 : Int32))).2) ?_
    refine XS.aload X66.here hx rfl (hb hby at_128) rfl rfl ?_
    show Steps p.tables e below (T66.setTop (mkF m 130 #[.val (.int p0), .val (.int p1), .val (.int p2), .val (.int p3), .val (.int p4), .val (.int (3 : Int32)), .val (.int i1), .val (.int i2), .val (.int i3), .val (.int i4), .val (.ref b1), .val (.ref b2_2), .unset] [(.ref b2_2)])) _
    refine XS.iconst X66.here hx rfl (hb hby at_130) ?_
    refine X66.daload hx (j := (2 : Int32)) (v := (.double (0 : UInt64))) (by rw [e66]; exact Arq69.1) (State.isArrayOf_alike hZ.alike Arq69.2.1) Arq69.2.2 (inb_of Sq69 ⟨by decide, by decide⟩) (Has.at Hq69 (inb_of Sq69 ⟨by decide, by decide⟩) rfl) (g := (mkF m 131 #[.val (.int p0), .val (.int p1), .val (.int p2), .val (.int p3), .val (.int p4), .val (.int (3 : Int32)), .val (.int i1), .val (.int i2), .val (.int i3), .val (.int i4), .val (.ref b1), .val (.ref b2_2), .unset] [(.int (2 : Int32)), (.ref b2_2)])) rfl rfl (hb hby at_131) _ ?_
    show Steps p.tables e below (T66.setTop (mkF m 132 #[.val (.int p0), .val (.int p1), .val (.int p2), .val (.int p3), .val (.int p4), .val (.int (3 : Int32)), .val (.int i1), .val (.int i2), .val (.int i3), .val (.int i4), .val (.ref b1), .val (.ref b2_2), .unset] [(.double (0 : UInt64))])) _
    refine XS.dconst0 X66.here hx rfl (hb hby at_132) (v := (0 : UInt64)) rfl ?_
    refine XS.dcmpS X66.here hx rfl (hb hby at_133) rfl (v := (0 : Int32)) hd133 ?_
    refine XS.ifNo X66.here hx rfl (hb hby at_134) rfl ((if0 _ _).trans (teq (by decide : (0 : Int32) = (0 : Int32))).2) ?_
    refine XS.aload X66.here hx rfl (hb hby at_137) rfl rfl ?_
    show Steps p.tables e below (T66.setTop (mkF m 139 #[.val (.int p0), .val (.int p1), .val (.int p2), .val (.int p3), .val (.int p4), .val (.int (3 : Int32)), .val (.int i1), .val (.int i2), .val (.int i3), .val (.int i4), .val (.ref b1), .val (.ref b2_2), .unset] [(.ref b2_2)])) _
    refine XS.iconst X66.here hx rfl (hb hby at_139) ?_
    refine X66.daload hx (j := (3 : Int32)) (v := (.double (0 : UInt64))) (by rw [e66]; exact Arq70.1) (State.isArrayOf_alike hZ.alike Arq70.2.1) Arq70.2.2 (inb_of Sq70 ⟨by decide, by decide⟩) (Has.at Hq70 (inb_of Sq70 ⟨by decide, by decide⟩) rfl) (g := (mkF m 140 #[.val (.int p0), .val (.int p1), .val (.int p2), .val (.int p3), .val (.int p4), .val (.int (3 : Int32)), .val (.int i1), .val (.int i2), .val (.int i3), .val (.int i4), .val (.ref b1), .val (.ref b2_2), .unset] [(.int (3 : Int32)), (.ref b2_2)])) rfl rfl (hb hby at_140) _ ?_
    show Steps p.tables e below (T66.setTop (mkF m 141 #[.val (.int p0), .val (.int p1), .val (.int p2), .val (.int p3), .val (.int p4), .val (.int (3 : Int32)), .val (.int i1), .val (.int i2), .val (.int i3), .val (.int i4), .val (.ref b1), .val (.ref b2_2), .unset] [(.double (0 : UInt64))])) _
    refine XS.dconst0 X66.here hx rfl (hb hby at_141) (v := (0 : UInt64)) rfl ?_
    refine XS.dcmpS X66.here hx rfl (hb hby at_142) rfl (v := (0 : Int32)) hd142 ?_
    refine XS.ifNo X66.here hx rfl (hb hby at_143) rfl ((if0 _ _).trans (teq (by decide : (0 : Int32) = (0 : Int32))).2) ?_
    refine XS.iconst X66.here hx rfl (hb hby at_146) ?_
    show Steps p.tables e below (T66.setTop (mkF m 147 #[.val (.int p0), .val (.int p1), .val (.int p2), .val (.int p3), .val (.int p4), .val (.int (3 : Int32)), .val (.int i1), .val (.int i2), .val (.int i3), .val (.int i4), .val (.ref b1), .val (.ref b2_2), .unset] [(.int (1 : Int32))])) _
    refine XS.goto X66.here hx rfl (pc0 := 147) (pc' := 151) rfl (hb hby at_147) (by decide) (by decide) ?_
    refine XS.istore X66.here hx rfl (hb hby at_151) rfl (l' := #[.val (.int p0), .val (.int p1), .val (.int p2), .val (.int p3), .val (.int p4), .val (.int (3 : Int32)), .val (.int i1), .val (.int i2), .val (.int i3), .val (.int i4), .val (.ref b1), .val (.ref b2_2), .val (.int (1 : Int32))]) rfl ?_
    refine XS.aload X66.here hx rfl (hb hby at_153) rfl rfl ?_
    refine XS.iload X66.here hx rfl (hb hby at_155) rfl ?_
    refine XS.iload X66.here hx rfl (hb hby at_157) rfl ?_
    refine XS.i2dS X66.here hx rfl (hb hby at_159) rfl (v := (FP.i2d p4)) rfl ?_
    show Steps p.tables e below (T66.setTop (mkF m 160 #[.val (.int p0), .val (.int p1), .val (.int p2), .val (.int p3), .val (.int p4), .val (.int (3 : Int32)), .val (.int i1), .val (.int i2), .val (.int i3), .val (.int i4), .val (.ref b1), .val (.ref b2_2), .val (.int (1 : Int32))] [(.double (FP.i2d p4)), (.int i4), (.ref b1)])) _
    refine st71.trans ?_
    show Steps p.tables e below (T71.setTop (mkF m 163 #[.val (.int p0), .val (.int p1), .val (.int p2), .val (.int p3), .val (.int p4), .val (.int (3 : Int32)), .val (.int i1), .val (.int i2), .val (.int i3), .val (.int i4), .val (.ref b1), .val (.ref b2_2), .val (.int (1 : Int32))] [])) _
    refine XS.aload X71.here hx rfl (hb hby at_163) rfl rfl ?_
    refine st81.trans ?_
    show Steps p.tables e below (T81.setTop (mkF m 168 #[.val (.int p0), .val (.int p1), .val (.int p2), .val (.int p3), .val (.int p4), .val (.int (3 : Int32)), .val (.int i1), .val (.int i2), .val (.int i3), .val (.int i4), .val (.ref b1), .val (.ref b2_2), .val (.int (1 : Int32))] [(.ref b2_2)])) _
    refine XS.astore X81.here hx rfl (hb hby at_168) rfl rfl (l' := #[.val (.int p0), .val (.int p1), .val (.int p2), .val (.int p3), .val (.int p4), .val (.int (3 : Int32)), .val (.int i1), .val (.int i2), .val (.int i3), .val (.int i4), .val (.ref b1), .val (.ref b2_2), .val (.int (1 : Int32))]) rfl ?_
    refine XS.iload X81.here hx rfl (hb hby at_170) rfl ?_
    refine XS.ifNo X81.here hx rfl (hb hby at_172) rfl ((if0 _ _).trans (feq (by decide : ¬ ((1 : Int32) = (0 : Int32)))).1) ?_
    show Steps p.tables e below (T81.setTop (mkF m 175 #[.val (.int p0), .val (.int p1), .val (.int p2), .val (.int p3), .val (.int p4), .val (.int (3 : Int32)), .val (.int i1), .val (.int i2), .val (.int i3), .val (.int i4), .val (.ref b1), .val (.ref b2_2), .val (.int (1 : Int32))] [])) _
    refine XS.aload X81.here hx rfl (hb hby at_175) rfl rfl ?_
    refine st82.trans ?_
    show Steps p.tables e below (T82.setTop (mkF m 180 #[.val (.int p0), .val (.int p1), .val (.int p2), .val (.int p3), .val (.int p4), .val (.int (3 : Int32)), .val (.int i1), .val (.int i2), .val (.int i3), .val (.int i4), .val (.ref b1), .val (.ref b2_2), .val (.int (1 : Int32))] [(.int (1 : Int32))])) _
    refine XS.iconst X82.here hx rfl (hb hby at_180) ?_
    refine XS.icmpNo X82.here hx rfl (hb hby at_181) rfl (teq (by decide : (1 : Int32) = (1 : Int32))).2 ?_
    refine XS.aload X82.here hx rfl (hb hby at_184) rfl rfl ?_
    refine st83.trans ?_
    show Steps p.tables e below (T83.setTop (mkF m 189 #[.val (.int p0), .val (.int p1), .val (.int p2), .val (.int p3), .val (.int p4), .val (.int (3 : Int32)), .val (.int i1), .val (.int i2), .val (.int i3), .val (.int i4), .val (.ref b1), .val (.ref b2_2), .val (.int (1 : Int32))] [(.ref b30_2)])) _
    refine XS.iconst X83.here hx rfl (hb hby at_189) ?_
    refine X83.iaload hx (j := (0 : Int32)) (v := (.int i4)) (by rw [e83]; exact Arq84.1) (State.isArrayOf_alike hZ.alike Arq84.2.1) Arq84.2.2 (inb_of Sq84 ⟨by decide, by decide⟩) (Has.at Hq84 (inb_of Sq84 ⟨by decide, by decide⟩) rfl) (g := (mkF m 190 #[.val (.int p0), .val (.int p1), .val (.int p2), .val (.int p3), .val (.int p4), .val (.int (3 : Int32)), .val (.int i1), .val (.int i2), .val (.int i3), .val (.int i4), .val (.ref b1), .val (.ref b2_2), .val (.int (1 : Int32))] [(.int (0 : Int32)), (.ref b30_2)])) rfl rfl (hb hby at_190) _ ?_
    show Steps p.tables e below (T83.setTop (mkF m 191 #[.val (.int p0), .val (.int p1), .val (.int p2), .val (.int p3), .val (.int p4), .val (.int (3 : Int32)), .val (.int i1), .val (.int i2), .val (.int i3), .val (.int i4), .val (.ref b1), .val (.ref b2_2), .val (.int (1 : Int32))] [(.int i4)])) _
    refine XS.iload X83.here hx rfl (hb hby at_191) rfl ?_
    refine XS.icmpNo X83.here hx rfl (hb hby at_193) rfl (teq (rfl : i4 = i4)).2 ?_
    refine XS.aload X83.here hx rfl (hb hby at_196) rfl rfl ?_
    refine XS.iload X83.here hx rfl (hb hby at_198) rfl ?_
    show Steps p.tables e below (T83.setTop (mkF m 200 #[.val (.int p0), .val (.int p1), .val (.int p2), .val (.int p3), .val (.int p4), .val (.int (3 : Int32)), .val (.int i1), .val (.int i2), .val (.int i3), .val (.int i4), .val (.ref b1), .val (.ref b2_2), .val (.int (1 : Int32))] [(.int i4), (.ref b2_2)])) _
    refine X83.daload hx (j := i4) (v := (.double y9)) (by rw [e83]; exact Arq85.1) (State.isArrayOf_alike hZ.alike Arq85.2.1) Arq85.2.2 (inb_of Sq85 hix4) (Has.at Hq85 (inb_of Sq85 hix4) hr200) (g := (mkF m 200 #[.val (.int p0), .val (.int p1), .val (.int p2), .val (.int p3), .val (.int p4), .val (.int (3 : Int32)), .val (.int i1), .val (.int i2), .val (.int i3), .val (.int i4), .val (.ref b1), .val (.ref b2_2), .val (.int (1 : Int32))] [(.int i4), (.ref b2_2)])) rfl rfl (hb hby at_200) _ ?_
    show Steps p.tables e below (T83.setTop (mkF m 201 #[.val (.int p0), .val (.int p1), .val (.int p2), .val (.int p3), .val (.int p4), .val (.int (3 : Int32)), .val (.int i1), .val (.int i2), .val (.int i3), .val (.int i4), .val (.ref b1), .val (.ref b2_2), .val (.int (1 : Int32))] [(.double y9)])) _
    refine XS.iload X83.here hx rfl (hb hby at_201) rfl ?_
    refine XS.i2dS X83.here hx rfl (hb hby at_203) rfl (v := (FP.i2d p4)) rfl ?_
    refine XS.dcmpS X83.here hx rfl (hb hby at_204) rfl (v := (0 : Int32)) hd204 ?_
    refine XS.ifNo X83.here hx rfl (hb hby at_205) rfl ((if0 _ _).trans (teq (by decide : (0 : Int32) = (0 : Int32))).2) ?_
    refine XS.iconst X83.here hx rfl (hb hby at_208) ?_
    show Steps p.tables e below (T83.setTop (mkF m 209 #[.val (.int p0), .val (.int p1), .val (.int p2), .val (.int p3), .val (.int p4), .val (.int (3 : Int32)), .val (.int i1), .val (.int i2), .val (.int i3), .val (.int i4), .val (.ref b1), .val (.ref b2_2), .val (.int (1 : Int32))] [(.int (1 : Int32))])) _
    refine XS.goto X83.here hx rfl (pc0 := 209) (pc' := 213) rfl (hb hby at_209) (by decide) (by decide) ?_
    refine XS.istore X83.here hx rfl (hb hby at_213) rfl (l' := #[.val (.int p0), .val (.int p1), .val (.int p2), .val (.int p3), .val (.int p4), .val (.int (3 : Int32)), .val (.int i1), .val (.int i2), .val (.int i3), .val (.int i4), .val (.ref b1), .val (.ref b2_2), .val (.int (1 : Int32))]) rfl ?_
    refine XS.iload X83.here hx rfl (hb hby at_215) rfl ?_
    refine XS.ifNo X83.here hx rfl (hb hby at_217) rfl ((if0 _ _).trans (feq (by decide : ¬ ((1 : Int32) = (0 : Int32)))).1) ?_
    refine XS.aload X83.here hx rfl (hb hby at_220) rfl rfl ?_
    refine XS.iconst X83.here hx rfl (hb hby at_222) ?_
    show Steps p.tables e below (T83.setTop (mkF m 223 #[.val (.int p0), .val (.int p1), .val (.int p2), .val (.int p3), .val (.int p4), .val (.int (3 : Int32)), .val (.int i1), .val (.int i2), .val (.int i3), .val (.int i4), .val (.ref b1), .val (.ref b2_2), .val (.int (1 : Int32))] [(.int (0 : Int32)), (.ref b2_2)])) _
    refine XS.iload X83.here hx rfl (hb hby at_223) rfl ?_
    refine st86 _ ?_
    show Steps p.tables e below (T86.setTop (mkF m 228 #[.val (.int p0), .val (.int p1), .val (.int p2), .val (.int p3), .val (.int p4), .val (.int (3 : Int32)), .val (.int i1), .val (.int i2), .val (.int i3), .val (.int i4), .val (.ref b1), .val (.ref b2_2), .val (.int (1 : Int32))] [(.int (1 : Int32))])) _
    refine XS.ifNo X86.here hx rfl (hb hby at_228) rfl ((if0 _ _).trans (feq (by decide : ¬ ((1 : Int32) = (0 : Int32)))).1) ?_
    refine XS.aload X86.here hx rfl (hb hby at_231) rfl rfl ?_
    refine XS.iconst X86.here hx rfl (hb hby at_233) ?_
    refine XS.iload X86.here hx rfl (hb hby at_234) rfl ?_
    show Steps p.tables e below (T86.setTop (mkF m 236 #[.val (.int p0), .val (.int p1), .val (.int p2), .val (.int p3), .val (.int p4), .val (.int (3 : Int32)), .val (.int i1), .val (.int i2), .val (.int i3), .val (.int i4), .val (.ref b1), .val (.ref b2_2), .val (.int (1 : Int32))] [(.int i4), (.int (1 : Int32)), (.ref b2_2)])) _
    refine st87 _ ?_
    show Steps p.tables e below (T87.setTop (mkF m 239 #[.val (.int p0), .val (.int p1), .val (.int p2), .val (.int p3), .val (.int p4), .val (.int (3 : Int32)), .val (.int i1), .val (.int i2), .val (.int i3), .val (.int i4), .val (.ref b1), .val (.ref b2_2), .val (.int (1 : Int32))] [(.int (1 : Int32))])) _
    refine XS.ifNo X87.here hx rfl (hb hby at_239) rfl ((if0 _ _).trans (feq (by decide : ¬ ((1 : Int32) = (0 : Int32)))).1) ?_
    refine XS.aload X87.here hx rfl (hb hby at_242) rfl rfl ?_
    refine XS.iconst X87.here hx rfl (hb hby at_244) ?_
    refine XS.iload X87.here hx rfl (hb hby at_245) rfl ?_
    refine st88 _ ?_
    show Steps p.tables e below (T88.setTop (mkF m 250 #[.val (.int p0), .val (.int p1), .val (.int p2), .val (.int p3), .val (.int p4), .val (.int (3 : Int32)), .val (.int i1), .val (.int i2), .val (.int i3), .val (.int i4), .val (.ref b1), .val (.ref b2_2), .val (.int (1 : Int32))] [(.int (1 : Int32))])) _
    refine XS.ifNo X88.here hx rfl (hb hby at_250) rfl ((if0 _ _).trans (feq (by decide : ¬ ((1 : Int32) = (0 : Int32)))).1) ?_
    refine XS.aload X88.here hx rfl (hb hby at_253) rfl rfl ?_
    refine XS.iconst X88.here hx rfl (hb hby at_255) ?_
    refine XS.iload X88.here hx rfl (hb hby at_256) rfl ?_
    refine st89 _ ?_
    show Steps p.tables e below (T89.setTop (mkF m 261 #[.val (.int p0), .val (.int p1), .val (.int p2), .val (.int p3), .val (.int p4), .val (.int (3 : Int32)), .val (.int i1), .val (.int i2), .val (.int i3), .val (.int i4), .val (.ref b1), .val (.ref b2_2), .val (.int (1 : Int32))] [(.int (1 : Int32))])) _
    refine XS.ifNo X89.here hx rfl (hb hby at_261) rfl ((if0 _ _).trans (feq (by decide : ¬ ((1 : Int32) = (0 : Int32)))).1) ?_
    show Steps p.tables e below (T89.setTop (mkF m 264 #[.val (.int p0), .val (.int p1), .val (.int p2), .val (.int p3), .val (.int p4), .val (.int (3 : Int32)), .val (.int i1), .val (.int i2), .val (.int i3), .val (.int i4), .val (.ref b1), .val (.ref b2_2), .val (.int (1 : Int32))] [])) _
    refine XS.iconst X89.here hx rfl (hb hby at_264) ?_
    refine XS.goto X89.here hx rfl (pc0 := 265) (pc' := 269) rfl (hb hby at_265) (by decide) (by decide) ?_
    refine XS.istore X89.here hx rfl (hb hby at_269) rfl (l' := #[.val (.int p0), .val (.int p1), .val (.int p2), .val (.int p3), .val (.int p4), .val (.int (3 : Int32)), .val (.int i1), .val (.int i2), .val (.int i3), .val (.int i4), .val (.ref b1), .val (.ref b2_2), .val (.int (1 : Int32))]) rfl ?_
    refine XS.iload X89.here hx rfl (hb hby at_271) rfl ?_
    exact retN X89 hx (t := .boolean) Bd.returns (by simp) (hb hby at_273) hr
  · show Q0 n0 _ T89.heap _
    rw [e89]
    exact ⟨rfl, N89⟩
set_option maxRecDepth 65536 in
set_option maxHeartbeats 40000000 in
theorem rm3DL (l : Launch) (Z : State) (a0 : Array Value) (hw : ∀ d ∈ tables_1, d.before a0 Z = true) (ws : List Jvm.Cond) (p0 : Int32) (p1 : Int32) (p2 : Int32) (p3 : Int32) (p4 : Int32) (i4 : Int32) (U1 : List Value) (x1 : UInt64) (y1 : UInt64) (M1 : List Value) (U2 : List Value) (x2 : UInt64) (y2 : UInt64) (M2 : List Value) (U3 : List Value) (x3 : UInt64) (y3 : UInt64) (U9 : List Value) (M9 : List Value) (y9 : UInt64) (i1 : Int32) (i2 : Int32) (i3 : Int32) (h0 : Heap) (n0 : Nat) (Z0 : n0 ≤ h0.size) (hix4 : ¬ i4 < 0 ∧ i4 < (4 : Int32)) (hr200 : U9.getD i4.toNatClampNeg (.double (0 : UInt64)) = .double y9) (hv2 : (p0 &&& (3 : Int32)) = (3 : Int32)) (hv9 : (((p0.toUInt32 >>> ((2 : Int32) &&& 31).toUInt32).toInt32) &&& (3 : Int32)) = i1) (hv16 : (((p0.toUInt32 >>> ((4 : Int32) &&& 31).toUInt32).toInt32) &&& (3 : Int32)) = i2) (hv24 : (((p0.toUInt32 >>> ((6 : Int32) &&& 31).toUInt32).toInt32) &&& (3 : Int32)) = i3) (hv32 : (((p0.toUInt32 >>> ((8 : Int32) &&& 31).toUInt32).toInt32) &&& (3 : Int32)) = i4) (hix_57 : ¬ i1 < 0 ∧ i1 < (4 : Int32)) (hrl_57 : ([(.int (0 : Int32)), (.int (0 : Int32)), (.int (0 : Int32)), (.int (0 : Int32))] : List Value).getD i1.toNatClampNeg (.int (0 : Int32)) = .int (0 : Int32)) (hrv_57 : ([(.double (0 : UInt64)), (.double (0 : UInt64)), (.double (0 : UInt64)), (.double (0 : UInt64))] : List Value).getD i1.toNatClampNeg (.double (0 : UInt64)) = .double x1) (hvl_57 : i1.toNatClampNeg < ([(.double (0 : UInt64)), (.double (0 : UInt64)), (.double (0 : UInt64)), (.double (0 : UInt64))] : List Value).length) (hll_57 : i1.toNatClampNeg < ([(.int (0 : Int32)), (.int (0 : Int32)), (.int (0 : Int32)), (.int (0 : Int32))] : List Value).length) (hls_57 : (([(.int (0 : Int32)), (.int (0 : Int32)), (.int (0 : Int32)), (.int (0 : Int32))] : List Value).set i1.toNatClampNeg (.int (1 : Int32))) = M1) (hvs_57 : (([(.double (0 : UInt64)), (.double (0 : UInt64)), (.double (0 : UInt64)), (.double (0 : UInt64))] : List Value).set i1.toNatClampNeg (.double y1)) = U1) (nn41_57 : Jvm.Free.Fl.NoNaN64 (FP.dadd x1 (FP.i2d p1))) (hq41_57 : (FP.dadd x1 (FP.i2d p1)) = y1) (hix_72 : ¬ i2 < 0 ∧ i2 < (4 : Int32)) (hrl_72 : M1.getD i2.toNatClampNeg (.int (0 : Int32)) = .int (0 : Int32)) (hrv_72 : U1.getD i2.toNatClampNeg (.double (0 : UInt64)) = .double x2) (hvl_72 : i2.toNatClampNeg < U1.length) (hll_72 : i2.toNatClampNeg < M1.length) (hls_72 : (M1.set i2.toNatClampNeg (.int (1 : Int32))) = M2) (hvs_72 : (U1.set i2.toNatClampNeg (.double y2)) = U2) (nn41_72 : Jvm.Free.Fl.NoNaN64 (FP.dadd x2 (FP.i2d p2))) (hq41_72 : (FP.dadd x2 (FP.i2d p2)) = y2) (hix_87 : ¬ i3 < 0 ∧ i3 < (4 : Int32)) (hrl_87 : M2.getD i3.toNatClampNeg (.int (0 : Int32)) = .int (1 : Int32)) (hrv_87 : U2.getD i3.toNatClampNeg (.double (0 : UInt64)) = .double x3) (hvl_87 : i3.toNatClampNeg < U2.length) (hvs_87 : (U2.set i3.toNatClampNeg (.double y3)) = U3) (nn41_87 : Jvm.Free.Fl.NoNaN64 (FP.dadd x3 (FP.i2d p3))) (hq41_87 : (FP.dadd x3 (FP.i2d p3)) = y3) (hx0_92 : ¬ i1 < 0 ∧ i1 < (4 : Int32)) (hv0_92 : i1.toNatClampNeg < U3.length) (hl0_92 : i1.toNatClampNeg < M2.length) (hx1_92 : ¬ i2 < 0 ∧ i2 < (4 : Int32)) (hv1_92 : i2.toNatClampNeg < U3.length) (hl1_92 : i2.toNatClampNeg < M2.length) (hvs_92 : ((U3.set i1.toNatClampNeg (.double (0 : UInt64))).set i2.toNatClampNeg (.double (0 : UInt64))) = ([(.double (0 : UInt64)), (.double (0 : UInt64)), (.double (0 : UInt64)), (.double (0 : UInt64))] : List Value)) (hls_92 : ((M2.set i1.toNatClampNeg (.int (0 : Int32))).set i2.toNatClampNeg (.int (0 : Int32))) = ([(.int (0 : Int32)), (.int (0 : Int32)), (.int (0 : Int32)), (.int (0 : Int32))] : List Value)) (hd115 : (cmpValue (FP.dcmp (0 : UInt64) (0 : UInt64)) .l) = (0 : Int32)) (hd124 : (cmpValue (FP.dcmp (0 : UInt64) (0 : UInt64)) .l) = (0 : Int32)) (hd133 : (cmpValue (FP.dcmp (0 : UInt64) (0 : UInt64)) .l) = (0 : Int32)) (hd142 : (cmpValue (FP.dcmp (0 : UInt64) (0 : UInt64)) .l) = (0 : Int32)) (hix_160 : ¬ i4 < 0 ∧ i4 < (4 : Int32)) (hrl_160 : ([(.int (0 : Int32)), (.int (0 : Int32)), (.int (0 : Int32)), (.int (0 : Int32))] : List Value).getD i4.toNatClampNeg (.int (0 : Int32)) = .int (0 : Int32)) (hrv_160 : ([(.double (0 : UInt64)), (.double (0 : UInt64)), (.double (0 : UInt64)), (.double (0 : UInt64))] : List Value).getD i4.toNatClampNeg (.double (0 : UInt64)) = .double (0 : UInt64)) (hvl_160 : i4.toNatClampNeg < ([(.double (0 : UInt64)), (.double (0 : UInt64)), (.double (0 : UInt64)), (.double (0 : UInt64))] : List Value).length) (hll_160 : i4.toNatClampNeg < ([(.int (0 : Int32)), (.int (0 : Int32)), (.int (0 : Int32)), (.int (0 : Int32))] : List Value).length) (hls_160 : (([(.int (0 : Int32)), (.int (0 : Int32)), (.int (0 : Int32)), (.int (0 : Int32))] : List Value).set i4.toNatClampNeg (.int (1 : Int32))) = M9) (hvs_160 : (([(.double (0 : UInt64)), (.double (0 : UInt64)), (.double (0 : UInt64)), (.double (0 : UInt64))] : List Value).set i4.toNatClampNeg (.double y9)) = U9) (nn41_160 : Jvm.Free.Fl.NoNaN64 (FP.dadd (0 : UInt64) (FP.i2d p4))) (hq41_160 : (FP.dadd (0 : UInt64) (FP.i2d p4)) = y9) (hd204 : (cmpValue (FP.dcmp y9 (FP.i2d p4)) .l) = (0 : Int32)) (hix_225 : ¬ (0 : Int32) < 0 ∧ (0 : Int32) < (4 : Int32)) (hrd_225 : ¬ ((0 : Int32) = i4) → U9.getD (0 : Int32).toNatClampNeg (.double (0 : UInt64)) = .double (0 : UInt64)) (hd9_225 : (cmpValue (FP.dcmp (0 : UInt64) (0 : UInt64)) .l) = (0 : Int32)) (hix_236 : ¬ (1 : Int32) < 0 ∧ (1 : Int32) < (4 : Int32)) (hrd_236 : ¬ ((1 : Int32) = i4) → U9.getD (1 : Int32).toNatClampNeg (.double (0 : UInt64)) = .double (0 : UInt64)) (hd9_236 : (cmpValue (FP.dcmp (0 : UInt64) (0 : UInt64)) .l) = (0 : Int32)) (hix_247 : ¬ (2 : Int32) < 0 ∧ (2 : Int32) < (4 : Int32)) (hrd_247 : ¬ ((2 : Int32) = i4) → U9.getD (2 : Int32).toNatClampNeg (.double (0 : UInt64)) = .double (0 : UInt64)) (hd9_247 : (cmpValue (FP.dcmp (0 : UInt64) (0 : UInt64)) .l) = (0 : Int32)) (hix_258 : ¬ (3 : Int32) < 0 ∧ (3 : Int32) < (4 : Int32)) (hrd_258 : ¬ ((3 : Int32) = i4) → U9.getD (3 : Int32).toNatClampNeg (.double (0 : UInt64)) = .double (0 : UInt64)) (hd9_258 : (cmpValue (FP.dcmp (0 : UInt64) (0 : UInt64)) .l) = (0 : Int32)) :
    MetFree l x (head1 (Jvm.Cond.code x code maxLocals ret :: ws) room_1) (fun a U => a = #[(.int p0), (.int p1), (.int p2), (.int p3), (.int p4)] ∧ Z.Warmed39 U.vm ∧ U.heap = h0) (fun _ _ _ _ _ => True) (fun _ U o U' => ∃ v L, o = .returned v ∧ Q0 n0 v U'.heap L ∧ FrameEnd U o U' L room_1.cells room_1.slots) := by
  refine MetFree.of_bodySF (plainFor_of_name pn_com_example_leeway_leeway_lp_SparseColumnClearPinLaw) hisR ?_
  intro p e s m args below meth c s₁ Bd hml0 hP hK
  obtain ⟨rfl, hZ, hh⟩ := hP
  have hx := Bd.exec
  have hby := Bd.bytes
  have hml : c.maxLocals = 13 := hml0
  have hown : s.vm.findClass "com/example/leeway/leeway/lp/SparseColumnClearPinLaw" = some m.cls := findClass_of_methodNamed Bd.named
  have hnm := (name_of_methodNamed Bd.named Bd.method).1
  have X0 : Stand p l e room_1 s m #[(.int p0), (.int p1), (.int p2), (.int p3), (.int p4)] below meth c s₁ [] 0 0 := Stand.of_body Bd
  have e0 : s₁.heap = h0 := by rw [← hh, Bd.state]; rfl
  have N0 := Fr.nil n0
  have pre0 : ∀ t, Steps p.tables e below (s₁.setTop (mkF m 0 #[.val (.int p0), .val (.int p1), .val (.int p2), .val (.int p3), .val (.int p4), .unset, .unset, .unset, .unset, .unset, .unset, .unset, .unset] [])) t → Steps p.tables e below (s₁.setTop (entryFrame m #[(.int p0), (.int p1), (.int p2), (.int p3), (.int p4)] maxLocals)) t := fun t k => castTop (ef_0_IIIII m p0 p1 p2 p3 p4) k
  obtain ⟨T1, h1, X1, e1, E1, A1, D1, -, st1⟩ := newO X0 hx hZ hown (hw _ (List.mem_of_getElem? (i := 0) rfl)) (hw _ (List.mem_of_getElem? (i := 1) rfl)) (hw _ (List.mem_of_getElem? (i := 2) rfl)) e0 (g := (mkF m 35 #[.val (.int p0), .val (.int p1), .val (.int p2), .val (.int p3), .val (.int p4), .val (.int (3 : Int32)), .val (.int i1), .val (.int i2), .val (.int i3), .val (.int i4), .unset, .unset, .unset] [])) rfl (hb hby at_35) (by decide) (by decide)
  obtain ⟨b1, g1⟩ : ∃ z, z = h0.size := ⟨_, rfl⟩
  rw [← g1] at A1 D1 st1
  have g_b1 : n0 ≤ b1 := Nat.le_trans Z0 (Nat.le_of_eq g1.symm)
  have sz_b1 : h0.size ≤ b1 := Nat.le_trans (Keep.refl h0 []).1 (Nat.le_of_eq g1.symm)
  have K1 : Keep h0 h1 [] := (Keep.refl h0 []).ext E1
  have Zs1 := Nat.le_trans Z0 E1.1
  have F1_values : Fld Z h1 b1 "com/example/leeway/leeway/lp/SparseColumn" "values" "[D" .null := D1 (Or.inr (hw _ (List.mem_of_getElem? (i := 11) rfl))) (ty := (.array .double)) (by decide)
  have F1_listed : Fld Z h1 b1 "com/example/leeway/leeway/lp/SparseColumn" "listed" "[Z" .null := D1 (Or.inr (hw _ (List.mem_of_getElem? (i := 14) rfl))) (ty := (.array .boolean)) (by decide)
  have F1_rows : Fld Z h1 b1 "com/example/leeway/leeway/lp/SparseColumn" "rows" "[I" .null := D1 (Or.inr (hw _ (List.mem_of_getElem? (i := 17) rfl))) (ty := (.array .int)) (by decide)
  have F1_count : Fld Z h1 b1 "com/example/leeway/leeway/lp/SparseColumn" "count" "I" (.int (0 : Int32)) := D1 (Or.inl (hw _ (List.mem_of_getElem? (i := 24) rfl))) (ty := .int) (by decide)
  obtain ⟨_, _, ⟨T2, L2, k2, n2⟩, -, X2, ⟨Lc2, hQ2, l2, y2, z2⟩, st2⟩ := X1.specialBack hx (y := (⟨"com/example/leeway/leeway/lp/SparseColumn", "<init>", "(I)V"⟩ : MethodName)) rfl hown (mvT hZ (hw _ (List.mem_of_getElem? (i := 3) rfl))) (mvT hZ (hw _ (List.mem_of_getElem? (i := 4) rfl))) (mvT hZ (hw _ (List.mem_of_getElem? (i := 5) rfl))) (by decide) (backOf (W := 1) (sci l Z a0 hw [] b1 h1 n0 Zs1 g_b1 A1 F1_values F1_listed F1_rows F1_count) hZ (hw _ (List.mem_of_getElem? (i := 5) rfl)) (hw _ (List.mem_of_getElem? (i := 2) rfl)) (by decide) (by decide)) (g := (mkF m 40 #[.val (.int p0), .val (.int p1), .val (.int p2), .val (.int p3), .val (.int p4), .val (.int (3 : Int32)), .val (.int i1), .val (.int i2), .val (.int i3), .val (.int i4), .unset, .unset, .unset] [(.int (4 : Int32)), (.ref b1), (.ref b1)])) rfl (by rw [hml]; rfl) (Steps.refl _) (a := b1) (argsL := [(.int (4 : Int32))]) (rest := [(.ref b1)]) (lenOf pd_0 rfl) rfl (by show 2 * 0 + _ ≤ _; exact Nat.le_of_eq rfl) (hb hby at_40) (fun _ _ => ⟨rfl, e1, (by decide : 1 + 3 ≤ _), (by decide : 4 + 12 ≤ _)⟩)
  dsimp only [Pt.U, Pt.locs, Pt.cells, Pt.slots] at X2 l2 y2 z2 st2 hQ2
  subst l2 y2 z2
  obtain ⟨b2_2, b15_2, b30_2, k2_2, k15_2, k30_2, rfl, N2q, K2q, r3, r4, r5, r6, r7, r8, f9, f10, f11, f12, f13, f14, f15, f16⟩ := hQ2
  have N2 := Fr.app N0 N2q
  have ne_b1_b2_2 : b1 ≠ b2_2 := Nat.ne_of_lt (Nat.lt_of_lt_of_le A1.lt r3)
  have g_b2_2 : n0 ≤ b2_2 := Nat.le_trans Zs1 r3
  have sz_b2_2 : h0.size ≤ b2_2 := Nat.le_trans K1.1 r3
  have ne_b1_b15_2 : b1 ≠ b15_2 := Nat.ne_of_lt (Nat.lt_of_lt_of_le A1.lt r4)
  have g_b15_2 : n0 ≤ b15_2 := Nat.le_trans Zs1 r4
  have sz_b15_2 : h0.size ≤ b15_2 := Nat.le_trans K1.1 r4
  have ne_b1_b30_2 : b1 ≠ b30_2 := Nat.ne_of_lt (Nat.lt_of_lt_of_le A1.lt r5)
  have g_b30_2 : n0 ≤ b30_2 := Nat.le_trans Zs1 r5
  have sz_b30_2 : h0.size ≤ b30_2 := Nat.le_trans K1.1 r5
  have f17 := A1.keep K2q
  have K2 : Keep h0 T2.heap [] := K1.trans K2q (own_allS (Or.inr sz_b1) own_all0)
  have Zs2 := Nat.le_trans Zs1 K2q.1
  obtain ⟨cq18, kq18, q18a, q18b, q18c⟩ := isOf hZ rfl f9
  obtain ⟨_, _, ⟨T18, L18, k18, n18⟩, -, X18, ⟨Lc18, hQ18, l18, y18, z18⟩, st18⟩ := X2.virtualBack hx (y := (⟨"com/example/leeway/leeway/lp/SparseColumn", "add", "(ID)V"⟩ : MethodName)) (z := (⟨"com/example/leeway/leeway/lp/SparseColumn", "add", "(ID)V"⟩ : MethodName)) hown (mvT hZ (hw _ (List.mem_of_getElem? (i := 35) rfl))) (mvT hZ (hw _ (List.mem_of_getElem? (i := 36) rfl))) (notFace_of_selects (args := #[]) (mvT hZ (hw _ (List.mem_of_getElem? (i := 38) rfl)))) (mvT hZ (hw _ (List.mem_of_getElem? (i := 38) rfl))) (mvT hZ (hw _ (List.mem_of_getElem? (i := 37) rfl))) (by decide) (backOf (W := 0) (addN0 l Z a0 hw [] b1 b2_2 b15_2 b30_2 k2_2 k15_2 k30_2 (0 : Int32) (0 : Int32) (0 : Int32) (0 : Int32) ([(.double (0 : UInt64)), (.double (0 : UInt64)), (.double (0 : UInt64)), (.double (0 : UInt64))] : List Value) ([(.int (0 : Int32)), (.int (0 : Int32)), (.int (0 : Int32)), (.int (0 : Int32))] : List Value) U1 M1 i1 (FP.i2d p1) x1 y1 T2.heap n0 Zs2 f10 f11 f12 f13 f9 f14 f15 f16 g_b1 g_b2_2 g_b15_2 g_b30_2 ne_b1_b2_2 ne_b1_b15_2 ne_b1_b30_2 r6 r7 r8 hix_57 hrl_57 hrv_57 hvl_57 hll_57 hls_57 hvs_57 nn41_57 hq41_57) hZ (hw _ (List.mem_of_getElem? (i := 39) rfl)) (hw _ (List.mem_of_getElem? (i := 2) rfl)) (by decide) (by decide)) q18a q18c (g := (mkF m 57 #[.val (.int p0), .val (.int p1), .val (.int p2), .val (.int p3), .val (.int p4), .val (.int (3 : Int32)), .val (.int i1), .val (.int i2), .val (.int i3), .val (.int i4), .val (.ref b1), .unset, .unset] [(.double (FP.i2d p1)), (.int i1), (.ref b1)])) rfl (by rw [hml]; rfl) (Steps.refl _) (argsL := [(.int i1), (.double (FP.i2d p1))]) (rest := []) (lenOf pd_4 rfl) rfl (by show 2 * 0 + _ ≤ _; exact Nat.le_of_eq rfl) (hb hby at_57) (fun _ _ => ⟨rfl, rfl, (by decide : 4 + 0 ≤ _), (by decide : 16 + 0 ≤ _)⟩)
  dsimp only [Pt.U, Pt.locs, Pt.cells, Pt.slots] at X18 l18 y18 z18 st18 hQ18
  subst l18 y18 z18
  obtain ⟨rfl, N18q, K18q, f19, f20, f21, f22, f23, f24, f25, f26⟩ := hQ18
  have N18 := Fr.app N2 N18q
  have f27 := f9.keep K18q
  have K18 : Keep h0 T18.heap [] := K2.trans K18q (own_allS (Or.inr sz_b15_2) (own_allS (Or.inr sz_b1) (own_allS (Or.inr sz_b30_2) (own_allS (Or.inr sz_b2_2) own_all0))))
  have Zs18 := Nat.le_trans Zs2 K18q.1
  obtain ⟨cq28, kq28, q28a, q28b, q28c⟩ := isOf hZ rfl f19
  obtain ⟨_, _, ⟨T28, L28, k28, n28⟩, -, X28, ⟨Lc28, hQ28, l28, y28, z28⟩, st28⟩ := X18.virtualBack hx (y := (⟨"com/example/leeway/leeway/lp/SparseColumn", "add", "(ID)V"⟩ : MethodName)) (z := (⟨"com/example/leeway/leeway/lp/SparseColumn", "add", "(ID)V"⟩ : MethodName)) hown (mvT hZ (hw _ (List.mem_of_getElem? (i := 35) rfl))) (mvT hZ (hw _ (List.mem_of_getElem? (i := 36) rfl))) (notFace_of_selects (args := #[]) (mvT hZ (hw _ (List.mem_of_getElem? (i := 38) rfl)))) (mvT hZ (hw _ (List.mem_of_getElem? (i := 38) rfl))) (mvT hZ (hw _ (List.mem_of_getElem? (i := 37) rfl))) (by decide) (backOf (W := 0) (addN1 l Z a0 hw [] b1 b2_2 b15_2 b30_2 k2_2 k15_2 k30_2 i1 (0 : Int32) (0 : Int32) (0 : Int32) U1 M1 U2 M2 i2 (FP.i2d p2) x2 y2 T18.heap n0 Zs18 f20 f21 f22 f23 f19 f24 f25 f26 g_b1 g_b2_2 g_b15_2 g_b30_2 ne_b1_b2_2 ne_b1_b15_2 ne_b1_b30_2 r6 r7 r8 hix_72 hrl_72 hrv_72 hvl_72 hll_72 hls_72 hvs_72 nn41_72 hq41_72) hZ (hw _ (List.mem_of_getElem? (i := 39) rfl)) (hw _ (List.mem_of_getElem? (i := 2) rfl)) (by decide) (by decide)) q28a q28c (g := (mkF m 72 #[.val (.int p0), .val (.int p1), .val (.int p2), .val (.int p3), .val (.int p4), .val (.int (3 : Int32)), .val (.int i1), .val (.int i2), .val (.int i3), .val (.int i4), .val (.ref b1), .unset, .unset] [(.double (FP.i2d p2)), (.int i2), (.ref b1)])) rfl (by rw [hml]; rfl) (Steps.refl _) (argsL := [(.int i2), (.double (FP.i2d p2))]) (rest := []) (lenOf pd_4 rfl) rfl (by show 2 * 0 + _ ≤ _; exact Nat.le_of_eq rfl) (hb hby at_72) (fun _ _ => ⟨rfl, rfl, (by decide : 4 + 0 ≤ _), (by decide : 16 + 0 ≤ _)⟩)
  dsimp only [Pt.U, Pt.locs, Pt.cells, Pt.slots] at X28 l28 y28 z28 st28 hQ28
  subst l28 y28 z28
  obtain ⟨rfl, N28q, K28q, f29, f30, f31, f32, f33, f34, f35, f36⟩ := hQ28
  have N28 := Fr.app N18 N28q
  have f37 := f19.keep K28q
  have K28 : Keep h0 T28.heap [] := K18.trans K28q (own_allS (Or.inr sz_b15_2) (own_allS (Or.inr sz_b1) (own_allS (Or.inr sz_b30_2) (own_allS (Or.inr sz_b2_2) own_all0))))
  have Zs28 := Nat.le_trans Zs18 K28q.1
  obtain ⟨cq38, kq38, q38a, q38b, q38c⟩ := isOf hZ rfl f29
  obtain ⟨_, _, ⟨T38, L38, k38, n38⟩, -, X38, ⟨Lc38, hQ38, l38, y38, z38⟩, st38⟩ := X28.virtualBack hx (y := (⟨"com/example/leeway/leeway/lp/SparseColumn", "add", "(ID)V"⟩ : MethodName)) (z := (⟨"com/example/leeway/leeway/lp/SparseColumn", "add", "(ID)V"⟩ : MethodName)) hown (mvT hZ (hw _ (List.mem_of_getElem? (i := 35) rfl))) (mvT hZ (hw _ (List.mem_of_getElem? (i := 36) rfl))) (notFace_of_selects (args := #[]) (mvT hZ (hw _ (List.mem_of_getElem? (i := 38) rfl)))) (mvT hZ (hw _ (List.mem_of_getElem? (i := 38) rfl))) (mvT hZ (hw _ (List.mem_of_getElem? (i := 37) rfl))) (by decide) (backOf (W := 0) (addL2 l Z a0 hw [] b1 b2_2 b15_2 b30_2 k2_2 k15_2 k30_2 i1 i2 (0 : Int32) (0 : Int32) U2 M2 U3 i3 (FP.i2d p3) x3 y3 T28.heap n0 Zs28 f30 f31 f32 f33 f29 f34 f35 f36 g_b1 g_b2_2 g_b15_2 g_b30_2 ne_b1_b2_2 ne_b1_b15_2 ne_b1_b30_2 r6 r7 r8 hix_87 hrl_87 hrv_87 hvl_87 hvs_87 nn41_87 hq41_87) hZ (hw _ (List.mem_of_getElem? (i := 39) rfl)) (hw _ (List.mem_of_getElem? (i := 2) rfl)) (by decide) (by decide)) q38a q38c (g := (mkF m 87 #[.val (.int p0), .val (.int p1), .val (.int p2), .val (.int p3), .val (.int p4), .val (.int (3 : Int32)), .val (.int i1), .val (.int i2), .val (.int i3), .val (.int i4), .val (.ref b1), .unset, .unset] [(.double (FP.i2d p3)), (.int i3), (.ref b1)])) rfl (by rw [hml]; rfl) (Steps.refl _) (argsL := [(.int i3), (.double (FP.i2d p3))]) (rest := []) (lenOf pd_4 rfl) rfl (by show 2 * 0 + _ ≤ _; exact Nat.le_of_eq rfl) (hb hby at_87) (fun _ _ => ⟨rfl, rfl, (by decide : 4 + 0 ≤ _), (by decide : 16 + 0 ≤ _)⟩)
  dsimp only [Pt.U, Pt.locs, Pt.cells, Pt.slots] at X38 l38 y38 z38 st38 hQ38
  subst l38 y38 z38
  obtain ⟨rfl, N38q, K38q, f39, f40, f41, f42, f43, f44, f45, f46⟩ := hQ38
  have N38 := Fr.app N28 N38q
  have f47 := f29.keep K38q
  have f48 := f30.keep K38q (own_niS ne_b1_b2_2 own_ni0)
  have f49 := f31.keep K38q (own_niS ne_b1_b2_2 own_ni0)
  have f50 := f32.keep K38q (own_niS ne_b1_b2_2 own_ni0)
  have f51 := f33.keep K38q (own_niS ne_b1_b2_2 own_ni0)
  have f52 := f35.keep K38q (own_niS (Ne.symm r6) own_ni0)
  have f53 := f36.keep K38q (own_niS (Ne.symm r7) own_ni0)
  have K38 : Keep h0 T38.heap [] := K28.trans K38q (own_allS (Or.inr sz_b2_2) own_all0)
  have Zs38 := Nat.le_trans Zs28 K38q.1
  obtain ⟨cq54, kq54, q54a, q54b, q54c⟩ := isOf hZ rfl f39
  obtain ⟨_, _, ⟨T54, L54, k54, n54⟩, -, X54, ⟨Lc54, hQ54, l54, y54, z54⟩, st54⟩ := X38.virtualBack hx (y := (⟨"com/example/leeway/leeway/lp/SparseColumn", "clear", "()V"⟩ : MethodName)) (z := (⟨"com/example/leeway/leeway/lp/SparseColumn", "clear", "()V"⟩ : MethodName)) hown (mvT hZ (hw _ (List.mem_of_getElem? (i := 18) rfl))) (mvT hZ (hw _ (List.mem_of_getElem? (i := 19) rfl))) (notFace_of_selects (args := #[]) (mvT hZ (hw _ (List.mem_of_getElem? (i := 21) rfl)))) (mvT hZ (hw _ (List.mem_of_getElem? (i := 21) rfl))) (mvT hZ (hw _ (List.mem_of_getElem? (i := 20) rfl))) (by decide) (backOf (W := 0) (clr2 l Z a0 hw [] b1 b2_2 b15_2 b30_2 k2_2 k15_2 k30_2 i1 i2 (0 : Int32) (0 : Int32) U3 M2 ([(.double (0 : UInt64)), (.double (0 : UInt64)), (.double (0 : UInt64)), (.double (0 : UInt64))] : List Value) ([(.int (0 : Int32)), (.int (0 : Int32)), (.int (0 : Int32)), (.int (0 : Int32))] : List Value) T38.heap n0 Zs38 f40 f41 f42 f43 f39 f44 f45 f46 g_b1 g_b2_2 g_b15_2 g_b30_2 ne_b1_b2_2 ne_b1_b15_2 ne_b1_b30_2 r6 r7 r8 hx0_92 hv0_92 hl0_92 hx1_92 hv1_92 hl1_92 hvs_92 hls_92) hZ (hw _ (List.mem_of_getElem? (i := 22) rfl)) (hw _ (List.mem_of_getElem? (i := 2) rfl)) (by decide) (by decide)) q54a q54c (g := (mkF m 92 #[.val (.int p0), .val (.int p1), .val (.int p2), .val (.int p3), .val (.int p4), .val (.int (3 : Int32)), .val (.int i1), .val (.int i2), .val (.int i3), .val (.int i4), .val (.ref b1), .unset, .unset] [(.ref b1)])) rfl (by rw [hml]; rfl) (Steps.refl _) (argsL := []) (rest := []) (lenOf pd_1 rfl) rfl (by show 2 * 0 + _ ≤ _; exact Nat.le_of_eq rfl) (hb hby at_92) (fun _ _ => ⟨rfl, rfl, (by decide : 4 + 0 ≤ _), (by decide : 16 + 0 ≤ _)⟩)
  dsimp only [Pt.U, Pt.locs, Pt.cells, Pt.slots] at X54 l54 y54 z54 st54 hQ54
  subst l54 y54 z54
  obtain ⟨rfl, N54q, K54q, f55, f56, f57, f58, f59, f60, f61, f62⟩ := hQ54
  have N54 := Fr.app N38 N54q
  have f63 := f39.keep K54q
  have f64 := f46.keep K54q (own_niS (Ne.symm r7) (own_niS (Ne.symm r8) (own_niS (Ne.symm ne_b1_b30_2) own_ni0)))
  have K54 : Keep h0 T54.heap [] := K38.trans K54q (own_allS (Or.inr sz_b2_2) (own_allS (Or.inr sz_b15_2) (own_allS (Or.inr sz_b1) own_all0)))
  have Zs54 := Nat.le_trans Zs38 K54q.1
  obtain ⟨cq65, kq65, q65a, q65b, q65c⟩ := isOf hZ rfl f55
  obtain ⟨_, _, ⟨T65, L65, k65, n65⟩, -, X65, ⟨Lc65, hQ65, l65, y65, z65⟩, st65⟩ := X54.virtualBack hx (y := (⟨"com/example/leeway/leeway/lp/SparseColumn", "values", "()[D"⟩ : MethodName)) (z := (⟨"com/example/leeway/leeway/lp/SparseColumn", "values", "()[D"⟩ : MethodName)) hown (mvT hZ (hw _ (List.mem_of_getElem? (i := 25) rfl))) (mvT hZ (hw _ (List.mem_of_getElem? (i := 26) rfl))) (notFace_of_selects (args := #[]) (mvT hZ (hw _ (List.mem_of_getElem? (i := 28) rfl)))) (mvT hZ (hw _ (List.mem_of_getElem? (i := 28) rfl))) (mvT hZ (hw _ (List.mem_of_getElem? (i := 27) rfl))) (by decide) (backOf (W := 0) (gv l Z a0 hw [] b1 b2_2 b15_2 b30_2 k2_2 k15_2 k30_2 i1 i2 (0 : Int32) (0 : Int32) ([(.double (0 : UInt64)), (.double (0 : UInt64)), (.double (0 : UInt64)), (.double (0 : UInt64))] : List Value) ([(.int (0 : Int32)), (.int (0 : Int32)), (.int (0 : Int32)), (.int (0 : Int32))] : List Value) (0 : Int32) T54.heap n0 Zs54 f56 f57 f58 f59 f55 f60 f61 f62) hZ (hw _ (List.mem_of_getElem? (i := 29) rfl)) (hw _ (List.mem_of_getElem? (i := 2) rfl)) (by decide) (by decide)) q65a q65c (g := (mkF m 97 #[.val (.int p0), .val (.int p1), .val (.int p2), .val (.int p3), .val (.int p4), .val (.int (3 : Int32)), .val (.int i1), .val (.int i2), .val (.int i3), .val (.int i4), .val (.ref b1), .unset, .unset] [(.ref b1)])) rfl (by rw [hml]; rfl) (Steps.refl _) (argsL := []) (rest := []) (lenOf pd_2 rfl) rfl (by show 2 * 0 + _ ≤ _; exact Nat.le_of_eq rfl) (hb hby at_97) (fun _ _ => ⟨rfl, rfl, (by decide : 4 + 0 ≤ _), (by decide : 16 + 0 ≤ _)⟩)
  dsimp only [Pt.U, Pt.locs, Pt.cells, Pt.slots] at X65 l65 y65 z65 st65 hQ65
  subst l65 y65 z65
  obtain ⟨rfl, N65q, eh65⟩ := hQ65
  have N65 := Fr.app N54 N65q
  have e65 : T65.heap = T54.heap := eh65
  obtain ⟨cq66, kq66, q66a, q66b, q66c⟩ := isOf hZ e65 f55
  obtain ⟨_, _, ⟨T66, L66, k66, n66⟩, -, X66, ⟨Lc66, hQ66, l66, y66, z66⟩, st66⟩ := X65.virtualBack hx (y := (⟨"com/example/leeway/leeway/lp/SparseColumn", "count", "()I"⟩ : MethodName)) (z := (⟨"com/example/leeway/leeway/lp/SparseColumn", "count", "()I"⟩ : MethodName)) hown (mvT hZ (hw _ (List.mem_of_getElem? (i := 30) rfl))) (mvT hZ (hw _ (List.mem_of_getElem? (i := 31) rfl))) (notFace_of_selects (args := #[]) (mvT hZ (hw _ (List.mem_of_getElem? (i := 33) rfl)))) (mvT hZ (hw _ (List.mem_of_getElem? (i := 33) rfl))) (mvT hZ (hw _ (List.mem_of_getElem? (i := 32) rfl))) (by decide) (backOf (W := 0) (gc l Z a0 hw [] b1 b2_2 b15_2 b30_2 k2_2 k15_2 k30_2 i1 i2 (0 : Int32) (0 : Int32) ([(.double (0 : UInt64)), (.double (0 : UInt64)), (.double (0 : UInt64)), (.double (0 : UInt64))] : List Value) ([(.int (0 : Int32)), (.int (0 : Int32)), (.int (0 : Int32)), (.int (0 : Int32))] : List Value) (0 : Int32) T54.heap n0 Zs54 f56 f57 f58 f59 f55 f60 f61 f62) hZ (hw _ (List.mem_of_getElem? (i := 34) rfl)) (hw _ (List.mem_of_getElem? (i := 2) rfl)) (by decide) (by decide)) q66a q66c (g := (mkF m 104 #[.val (.int p0), .val (.int p1), .val (.int p2), .val (.int p3), .val (.int p4), .val (.int (3 : Int32)), .val (.int i1), .val (.int i2), .val (.int i3), .val (.int i4), .val (.ref b1), .val (.ref b2_2), .unset] [(.ref b1)])) rfl (by rw [hml]; rfl) (Steps.refl _) (argsL := []) (rest := []) (lenOf pd_3 rfl) rfl (by show 2 * 0 + _ ≤ _; exact Nat.le_of_eq rfl) (hb hby at_104) (fun _ _ => ⟨rfl, e65, (by decide : 4 + 0 ≤ _), (by decide : 16 + 0 ≤ _)⟩)
  dsimp only [Pt.U, Pt.locs, Pt.cells, Pt.slots] at X66 l66 y66 z66 st66 hQ66
  subst l66 y66 z66
  obtain ⟨rfl, N66q, eh66⟩ := hQ66
  have N66 := Fr.app N65 N66q
  have e66 : T66.heap = T54.heap := eh66
  obtain ⟨cq67, Arq67, -, Sq67, -, Hq67, -⟩ := id f60
  obtain ⟨cq68, Arq68, -, Sq68, -, Hq68, -⟩ := id f60
  obtain ⟨cq69, Arq69, -, Sq69, -, Hq69, -⟩ := id f60
  obtain ⟨cq70, Arq70, -, Sq70, -, Hq70, -⟩ := id f60
  obtain ⟨cq71, kq71, q71a, q71b, q71c⟩ := isOf hZ e66 f55
  obtain ⟨_, _, ⟨T71, L71, k71, n71⟩, -, X71, ⟨Lc71, hQ71, l71, y71, z71⟩, st71⟩ := X66.virtualBack hx (y := (⟨"com/example/leeway/leeway/lp/SparseColumn", "add", "(ID)V"⟩ : MethodName)) (z := (⟨"com/example/leeway/leeway/lp/SparseColumn", "add", "(ID)V"⟩ : MethodName)) hown (mvT hZ (hw _ (List.mem_of_getElem? (i := 35) rfl))) (mvT hZ (hw _ (List.mem_of_getElem? (i := 36) rfl))) (notFace_of_selects (args := #[]) (mvT hZ (hw _ (List.mem_of_getElem? (i := 38) rfl)))) (mvT hZ (hw _ (List.mem_of_getElem? (i := 38) rfl))) (mvT hZ (hw _ (List.mem_of_getElem? (i := 37) rfl))) (by decide) (backOf (W := 0) (addN0 l Z a0 hw [] b1 b2_2 b15_2 b30_2 k2_2 k15_2 k30_2 i1 i2 (0 : Int32) (0 : Int32) ([(.double (0 : UInt64)), (.double (0 : UInt64)), (.double (0 : UInt64)), (.double (0 : UInt64))] : List Value) ([(.int (0 : Int32)), (.int (0 : Int32)), (.int (0 : Int32)), (.int (0 : Int32))] : List Value) U9 M9 i4 (FP.i2d p4) (0 : UInt64) y9 T54.heap n0 Zs54 f56 f57 f58 f59 f55 f60 f61 f62 g_b1 g_b2_2 g_b15_2 g_b30_2 ne_b1_b2_2 ne_b1_b15_2 ne_b1_b30_2 r6 r7 r8 hix_160 hrl_160 hrv_160 hvl_160 hll_160 hls_160 hvs_160 nn41_160 hq41_160) hZ (hw _ (List.mem_of_getElem? (i := 39) rfl)) (hw _ (List.mem_of_getElem? (i := 2) rfl)) (by decide) (by decide)) q71a q71c (g := (mkF m 160 #[.val (.int p0), .val (.int p1), .val (.int p2), .val (.int p3), .val (.int p4), .val (.int (3 : Int32)), .val (.int i1), .val (.int i2), .val (.int i3), .val (.int i4), .val (.ref b1), .val (.ref b2_2), .val (.int (1 : Int32))] [(.double (FP.i2d p4)), (.int i4), (.ref b1)])) rfl (by rw [hml]; rfl) (Steps.refl _) (argsL := [(.int i4), (.double (FP.i2d p4))]) (rest := []) (lenOf pd_4 rfl) rfl (by show 2 * 0 + _ ≤ _; exact Nat.le_of_eq rfl) (hb hby at_160) (fun _ _ => ⟨rfl, e66, (by decide : 4 + 0 ≤ _), (by decide : 16 + 0 ≤ _)⟩)
  dsimp only [Pt.U, Pt.locs, Pt.cells, Pt.slots] at X71 l71 y71 z71 st71 hQ71
  subst l71 y71 z71
  obtain ⟨rfl, N71q, K71q, f72, f73, f74, f75, f76, f77, f78, f79⟩ := hQ71
  have N71 := Fr.app N66 N71q
  have f80 := f55.keep K71q
  have K71 : Keep h0 T71.heap [] := K54.trans K71q (own_allS (Or.inr sz_b15_2) (own_allS (Or.inr sz_b1) (own_allS (Or.inr sz_b30_2) (own_allS (Or.inr sz_b2_2) own_all0))))
  have Zs71 := Nat.le_trans Zs54 K71q.1
  obtain ⟨cq81, kq81, q81a, q81b, q81c⟩ := isOf hZ rfl f72
  obtain ⟨_, _, ⟨T81, L81, k81, n81⟩, -, X81, ⟨Lc81, hQ81, l81, y81, z81⟩, st81⟩ := X71.virtualBack hx (y := (⟨"com/example/leeway/leeway/lp/SparseColumn", "values", "()[D"⟩ : MethodName)) (z := (⟨"com/example/leeway/leeway/lp/SparseColumn", "values", "()[D"⟩ : MethodName)) hown (mvT hZ (hw _ (List.mem_of_getElem? (i := 25) rfl))) (mvT hZ (hw _ (List.mem_of_getElem? (i := 26) rfl))) (notFace_of_selects (args := #[]) (mvT hZ (hw _ (List.mem_of_getElem? (i := 28) rfl)))) (mvT hZ (hw _ (List.mem_of_getElem? (i := 28) rfl))) (mvT hZ (hw _ (List.mem_of_getElem? (i := 27) rfl))) (by decide) (backOf (W := 0) (gv l Z a0 hw [] b1 b2_2 b15_2 b30_2 k2_2 k15_2 k30_2 i4 i2 (0 : Int32) (0 : Int32) U9 M9 (1 : Int32) T71.heap n0 Zs71 f73 f74 f75 f76 f72 f77 f78 f79) hZ (hw _ (List.mem_of_getElem? (i := 29) rfl)) (hw _ (List.mem_of_getElem? (i := 2) rfl)) (by decide) (by decide)) q81a q81c (g := (mkF m 165 #[.val (.int p0), .val (.int p1), .val (.int p2), .val (.int p3), .val (.int p4), .val (.int (3 : Int32)), .val (.int i1), .val (.int i2), .val (.int i3), .val (.int i4), .val (.ref b1), .val (.ref b2_2), .val (.int (1 : Int32))] [(.ref b1)])) rfl (by rw [hml]; rfl) (Steps.refl _) (argsL := []) (rest := []) (lenOf pd_2 rfl) rfl (by show 2 * 0 + _ ≤ _; exact Nat.le_of_eq rfl) (hb hby at_165) (fun _ _ => ⟨rfl, rfl, (by decide : 4 + 0 ≤ _), (by decide : 16 + 0 ≤ _)⟩)
  dsimp only [Pt.U, Pt.locs, Pt.cells, Pt.slots] at X81 l81 y81 z81 st81 hQ81
  subst l81 y81 z81
  obtain ⟨rfl, N81q, eh81⟩ := hQ81
  have N81 := Fr.app N71 N81q
  have e81 : T81.heap = T71.heap := eh81
  obtain ⟨cq82, kq82, q82a, q82b, q82c⟩ := isOf hZ e81 f72
  obtain ⟨_, _, ⟨T82, L82, k82, n82⟩, -, X82, ⟨Lc82, hQ82, l82, y82, z82⟩, st82⟩ := X81.virtualBack hx (y := (⟨"com/example/leeway/leeway/lp/SparseColumn", "count", "()I"⟩ : MethodName)) (z := (⟨"com/example/leeway/leeway/lp/SparseColumn", "count", "()I"⟩ : MethodName)) hown (mvT hZ (hw _ (List.mem_of_getElem? (i := 30) rfl))) (mvT hZ (hw _ (List.mem_of_getElem? (i := 31) rfl))) (notFace_of_selects (args := #[]) (mvT hZ (hw _ (List.mem_of_getElem? (i := 33) rfl)))) (mvT hZ (hw _ (List.mem_of_getElem? (i := 33) rfl))) (mvT hZ (hw _ (List.mem_of_getElem? (i := 32) rfl))) (by decide) (backOf (W := 0) (gc l Z a0 hw [] b1 b2_2 b15_2 b30_2 k2_2 k15_2 k30_2 i4 i2 (0 : Int32) (0 : Int32) U9 M9 (1 : Int32) T71.heap n0 Zs71 f73 f74 f75 f76 f72 f77 f78 f79) hZ (hw _ (List.mem_of_getElem? (i := 34) rfl)) (hw _ (List.mem_of_getElem? (i := 2) rfl)) (by decide) (by decide)) q82a q82c (g := (mkF m 177 #[.val (.int p0), .val (.int p1), .val (.int p2), .val (.int p3), .val (.int p4), .val (.int (3 : Int32)), .val (.int i1), .val (.int i2), .val (.int i3), .val (.int i4), .val (.ref b1), .val (.ref b2_2), .val (.int (1 : Int32))] [(.ref b1)])) rfl (by rw [hml]; rfl) (Steps.refl _) (argsL := []) (rest := []) (lenOf pd_3 rfl) rfl (by show 2 * 0 + _ ≤ _; exact Nat.le_of_eq rfl) (hb hby at_177) (fun _ _ => ⟨rfl, e81, (by decide : 4 + 0 ≤ _), (by decide : 16 + 0 ≤ _)⟩)
  dsimp only [Pt.U, Pt.locs, Pt.cells, Pt.slots] at X82 l82 y82 z82 st82 hQ82
  subst l82 y82 z82
  obtain ⟨rfl, N82q, eh82⟩ := hQ82
  have N82 := Fr.app N81 N82q
  have e82 : T82.heap = T71.heap := eh82
  obtain ⟨cq83, kq83, q83a, q83b, q83c⟩ := isOf hZ e82 f72
  obtain ⟨_, _, ⟨T83, L83, k83, n83⟩, -, X83, ⟨Lc83, hQ83, l83, y83, z83⟩, st83⟩ := X82.virtualBack hx (y := (⟨"com/example/leeway/leeway/lp/SparseColumn", "rows", "()[I"⟩ : MethodName)) (z := (⟨"com/example/leeway/leeway/lp/SparseColumn", "rows", "()[I"⟩ : MethodName)) hown (mvT hZ (hw _ (List.mem_of_getElem? (i := 40) rfl))) (mvT hZ (hw _ (List.mem_of_getElem? (i := 41) rfl))) (notFace_of_selects (args := #[]) (mvT hZ (hw _ (List.mem_of_getElem? (i := 43) rfl)))) (mvT hZ (hw _ (List.mem_of_getElem? (i := 43) rfl))) (mvT hZ (hw _ (List.mem_of_getElem? (i := 42) rfl))) (by decide) (backOf (W := 0) (gr l Z a0 hw [] b1 b2_2 b15_2 b30_2 k2_2 k15_2 k30_2 i4 i2 (0 : Int32) (0 : Int32) U9 M9 (1 : Int32) T71.heap n0 Zs71 f73 f74 f75 f76 f72 f77 f78 f79) hZ (hw _ (List.mem_of_getElem? (i := 44) rfl)) (hw _ (List.mem_of_getElem? (i := 2) rfl)) (by decide) (by decide)) q83a q83c (g := (mkF m 186 #[.val (.int p0), .val (.int p1), .val (.int p2), .val (.int p3), .val (.int p4), .val (.int (3 : Int32)), .val (.int i1), .val (.int i2), .val (.int i3), .val (.int i4), .val (.ref b1), .val (.ref b2_2), .val (.int (1 : Int32))] [(.ref b1)])) rfl (by rw [hml]; rfl) (Steps.refl _) (argsL := []) (rest := []) (lenOf pd_5 rfl) rfl (by show 2 * 0 + _ ≤ _; exact Nat.le_of_eq rfl) (hb hby at_186) (fun _ _ => ⟨rfl, e82, (by decide : 4 + 0 ≤ _), (by decide : 16 + 0 ≤ _)⟩)
  dsimp only [Pt.U, Pt.locs, Pt.cells, Pt.slots] at X83 l83 y83 z83 st83 hQ83
  subst l83 y83 z83
  obtain ⟨rfl, N83q, eh83⟩ := hQ83
  have N83 := Fr.app N82 N83q
  have e83 : T83.heap = T71.heap := eh83
  obtain ⟨cq84, Arq84, -, Sq84, -, Hq84, -⟩ := id f79
  obtain ⟨cq85, Arq85, -, Sq85, -, Hq85, -⟩ := id f77
  obtain ⟨_, _, ⟨T86, L86, k86, n86⟩, -, X86, ⟨Lc86, hQ86, l86, y86, z86⟩, st86⟩ := Jvm.LawKit.callS X83 hx (y := (⟨"com/example/leeway/leeway/lp/SparseColumnClearPinLaw", "zeroUnless", "([DII)Z"⟩ : MethodName)) hown (mvT hZ (hw _ (List.mem_of_getElem? (i := 45) rfl))) (mvT hZ (hw _ (List.mem_of_getElem? (i := 46) rfl))) (mvT hZ (hw _ (List.mem_of_getElem? (i := 47) rfl))) (mvT hZ (hw _ (List.mem_of_getElem? (i := 48) rfl))) (by decide) (backOf (W := 0) (zu l Z a0 hw [] b2_2 k2_2 U9 (0 : Int32) i4 T71.heap n0 Zs71 f77 hix_225 hrd_225 hd9_225) hZ (hw _ (List.mem_of_getElem? (i := 48) rfl)) (hw _ (List.mem_of_getElem? (i := 47) rfl)) (by decide) (by decide)) (g := (mkF m 225 #[.val (.int p0), .val (.int p1), .val (.int p2), .val (.int p3), .val (.int p4), .val (.int (3 : Int32)), .val (.int i1), .val (.int i2), .val (.int i3), .val (.int i4), .val (.ref b1), .val (.ref b2_2), .val (.int (1 : Int32))] [(.int i4), (.int (0 : Int32)), (.ref b2_2)])) rfl (by rw [hml]; rfl) (argsL := [(.ref b2_2), (.int (0 : Int32)), (.int i4)]) (rest := []) (lenOf pd_6 rfl) rfl (by show 2 * 0 + _ ≤ _; exact Nat.le_of_eq rfl) (hb hby at_225) (fun _ _ => ⟨rfl, e83, (by decide : 4 + 0 ≤ _), (by decide : 16 + 0 ≤ _)⟩)
  dsimp only [Pt.U, Pt.locs, Pt.cells, Pt.slots] at X86 l86 y86 z86 st86 hQ86
  subst l86 y86 z86
  obtain ⟨rfl, N86q, eh86⟩ := hQ86
  have N86 := Fr.app N83 N86q
  have e86 : T86.heap = T71.heap := eh86
  obtain ⟨_, _, ⟨T87, L87, k87, n87⟩, -, X87, ⟨Lc87, hQ87, l87, y87, z87⟩, st87⟩ := Jvm.LawKit.callS X86 hx (y := (⟨"com/example/leeway/leeway/lp/SparseColumnClearPinLaw", "zeroUnless", "([DII)Z"⟩ : MethodName)) hown (mvT hZ (hw _ (List.mem_of_getElem? (i := 45) rfl))) (mvT hZ (hw _ (List.mem_of_getElem? (i := 46) rfl))) (mvT hZ (hw _ (List.mem_of_getElem? (i := 47) rfl))) (mvT hZ (hw _ (List.mem_of_getElem? (i := 48) rfl))) (by decide) (backOf (W := 0) (zu l Z a0 hw [] b2_2 k2_2 U9 (1 : Int32) i4 T71.heap n0 Zs71 f77 hix_236 hrd_236 hd9_236) hZ (hw _ (List.mem_of_getElem? (i := 48) rfl)) (hw _ (List.mem_of_getElem? (i := 47) rfl)) (by decide) (by decide)) (g := (mkF m 236 #[.val (.int p0), .val (.int p1), .val (.int p2), .val (.int p3), .val (.int p4), .val (.int (3 : Int32)), .val (.int i1), .val (.int i2), .val (.int i3), .val (.int i4), .val (.ref b1), .val (.ref b2_2), .val (.int (1 : Int32))] [(.int i4), (.int (1 : Int32)), (.ref b2_2)])) rfl (by rw [hml]; rfl) (argsL := [(.ref b2_2), (.int (1 : Int32)), (.int i4)]) (rest := []) (lenOf pd_6 rfl) rfl (by show 2 * 0 + _ ≤ _; exact Nat.le_of_eq rfl) (hb hby at_236) (fun _ _ => ⟨rfl, e86, (by decide : 4 + 0 ≤ _), (by decide : 16 + 0 ≤ _)⟩)
  dsimp only [Pt.U, Pt.locs, Pt.cells, Pt.slots] at X87 l87 y87 z87 st87 hQ87
  subst l87 y87 z87
  obtain ⟨rfl, N87q, eh87⟩ := hQ87
  have N87 := Fr.app N86 N87q
  have e87 : T87.heap = T71.heap := eh87
  obtain ⟨_, _, ⟨T88, L88, k88, n88⟩, -, X88, ⟨Lc88, hQ88, l88, y88, z88⟩, st88⟩ := Jvm.LawKit.callS X87 hx (y := (⟨"com/example/leeway/leeway/lp/SparseColumnClearPinLaw", "zeroUnless", "([DII)Z"⟩ : MethodName)) hown (mvT hZ (hw _ (List.mem_of_getElem? (i := 45) rfl))) (mvT hZ (hw _ (List.mem_of_getElem? (i := 46) rfl))) (mvT hZ (hw _ (List.mem_of_getElem? (i := 47) rfl))) (mvT hZ (hw _ (List.mem_of_getElem? (i := 48) rfl))) (by decide) (backOf (W := 0) (zu l Z a0 hw [] b2_2 k2_2 U9 (2 : Int32) i4 T71.heap n0 Zs71 f77 hix_247 hrd_247 hd9_247) hZ (hw _ (List.mem_of_getElem? (i := 48) rfl)) (hw _ (List.mem_of_getElem? (i := 47) rfl)) (by decide) (by decide)) (g := (mkF m 247 #[.val (.int p0), .val (.int p1), .val (.int p2), .val (.int p3), .val (.int p4), .val (.int (3 : Int32)), .val (.int i1), .val (.int i2), .val (.int i3), .val (.int i4), .val (.ref b1), .val (.ref b2_2), .val (.int (1 : Int32))] [(.int i4), (.int (2 : Int32)), (.ref b2_2)])) rfl (by rw [hml]; rfl) (argsL := [(.ref b2_2), (.int (2 : Int32)), (.int i4)]) (rest := []) (lenOf pd_6 rfl) rfl (by show 2 * 0 + _ ≤ _; exact Nat.le_of_eq rfl) (hb hby at_247) (fun _ _ => ⟨rfl, e87, (by decide : 4 + 0 ≤ _), (by decide : 16 + 0 ≤ _)⟩)
  dsimp only [Pt.U, Pt.locs, Pt.cells, Pt.slots] at X88 l88 y88 z88 st88 hQ88
  subst l88 y88 z88
  obtain ⟨rfl, N88q, eh88⟩ := hQ88
  have N88 := Fr.app N87 N88q
  have e88 : T88.heap = T71.heap := eh88
  obtain ⟨_, _, ⟨T89, L89, k89, n89⟩, -, X89, ⟨Lc89, hQ89, l89, y89, z89⟩, st89⟩ := Jvm.LawKit.callS X88 hx (y := (⟨"com/example/leeway/leeway/lp/SparseColumnClearPinLaw", "zeroUnless", "([DII)Z"⟩ : MethodName)) hown (mvT hZ (hw _ (List.mem_of_getElem? (i := 45) rfl))) (mvT hZ (hw _ (List.mem_of_getElem? (i := 46) rfl))) (mvT hZ (hw _ (List.mem_of_getElem? (i := 47) rfl))) (mvT hZ (hw _ (List.mem_of_getElem? (i := 48) rfl))) (by decide) (backOf (W := 0) (zu l Z a0 hw [] b2_2 k2_2 U9 (3 : Int32) i4 T71.heap n0 Zs71 f77 hix_258 hrd_258 hd9_258) hZ (hw _ (List.mem_of_getElem? (i := 48) rfl)) (hw _ (List.mem_of_getElem? (i := 47) rfl)) (by decide) (by decide)) (g := (mkF m 258 #[.val (.int p0), .val (.int p1), .val (.int p2), .val (.int p3), .val (.int p4), .val (.int (3 : Int32)), .val (.int i1), .val (.int i2), .val (.int i3), .val (.int i4), .val (.ref b1), .val (.ref b2_2), .val (.int (1 : Int32))] [(.int i4), (.int (3 : Int32)), (.ref b2_2)])) rfl (by rw [hml]; rfl) (argsL := [(.ref b2_2), (.int (3 : Int32)), (.int i4)]) (rest := []) (lenOf pd_6 rfl) rfl (by show 2 * 0 + _ ≤ _; exact Nat.le_of_eq rfl) (hb hby at_258) (fun _ _ => ⟨rfl, e88, (by decide : 4 + 0 ≤ _), (by decide : 16 + 0 ≤ _)⟩)
  dsimp only [Pt.U, Pt.locs, Pt.cells, Pt.slots] at X89 l89 y89 z89 st89 hQ89
  subst l89 y89 z89
  obtain ⟨rfl, N89q, eh89⟩ := hQ89
  have N89 := Fr.app N88 N89q
  have e89 : T89.heap = T71.heap := eh89
  obtain ⟨fs, hr, hrun, hended, hW, hsame⟩ := X89.leave (v := some (.int (1 : Int32))) (fun h => by rw [Bd.returns] at h; cases h)
  refine ⟨_, _, pre0 _ ?_, hrun, hended, _, _, rfl, ?_, ⟨_, rfl⟩, hW, hsame.mono (by decide) (by decide)⟩
  · show Steps p.tables e below (s₁.setTop (mkF m 0 #[.val (.int p0), .val (.int p1), .val (.int p2), .val (.int p3), .val (.int p4), .unset, .unset, .unset, .unset, .unset, .unset, .unset, .unset] [])) _
    refine XS.iloadN X0.here hx rfl (hb hby at_0) rfl ?_
    refine XS.iconst X0.here hx rfl (hb hby at_1) ?_
    refine XS.iand X0.here hx rfl (hb hby at_2) rfl ?_
    show Steps p.tables e below (s₁.setTop (mkF m 3 #[.val (.int p0), .val (.int p1), .val (.int p2), .val (.int p3), .val (.int p4), .unset, .unset, .unset, .unset, .unset, .unset, .unset, .unset] [(.int (p0 &&& (3 : Int32)))])) _
    rw [hv2]
    show Steps p.tables e below (s₁.setTop (mkF m 3 #[.val (.int p0), .val (.int p1), .val (.int p2), .val (.int p3), .val (.int p4), .unset, .unset, .unset, .unset, .unset, .unset, .unset, .unset] [(.int (3 : Int32))])) _
    refine XS.istore X0.here hx rfl (hb hby at_3) rfl (l' := #[.val (.int p0), .val (.int p1), .val (.int p2), .val (.int p3), .val (.int p4), .val (.int (3 : Int32)), .unset, .unset, .unset, .unset, .unset, .unset, .unset]) rfl ?_
    show Steps p.tables e below (s₁.setTop (mkF m 5 #[.val (.int p0), .val (.int p1), .val (.int p2), .val (.int p3), .val (.int p4), .val (.int (3 : Int32)), .unset, .unset, .unset, .unset, .unset, .unset, .unset] [])) _
    refine XS.iloadN X0.here hx rfl (hb hby at_5) rfl ?_
    refine XS.iconst X0.here hx rfl (hb hby at_6) ?_
    refine XS.iushr X0.here hx rfl (hb hby at_7) rfl ?_
    refine XS.iconst X0.here hx rfl (hb hby at_8) ?_
    refine XS.iand X0.here hx rfl (hb hby at_9) rfl ?_
    show Steps p.tables e below (s₁.setTop (mkF m 10 #[.val (.int p0), .val (.int p1), .val (.int p2), .val (.int p3), .val (.int p4), .val (.int (3 : Int32)), .unset, .unset, .unset, .unset, .unset, .unset, .unset] [(.int (((p0.toUInt32 >>> ((2 : Int32) &&& 31).toUInt32).toInt32) &&& (3 : Int32)))])) _
    rw [hv9]
    show Steps p.tables e below (s₁.setTop (mkF m 10 #[.val (.int p0), .val (.int p1), .val (.int p2), .val (.int p3), .val (.int p4), .val (.int (3 : Int32)), .unset, .unset, .unset, .unset, .unset, .unset, .unset] [(.int i1)])) _
    refine XS.istore X0.here hx rfl (hb hby at_10) rfl (l' := #[.val (.int p0), .val (.int p1), .val (.int p2), .val (.int p3), .val (.int p4), .val (.int (3 : Int32)), .val (.int i1), .unset, .unset, .unset, .unset, .unset, .unset]) rfl ?_
    refine XS.iloadN X0.here hx rfl (hb hby at_12) rfl ?_
    refine XS.iconst X0.here hx rfl (hb hby at_13) ?_
    refine XS.iushr X0.here hx rfl (hb hby at_14) rfl ?_
    refine XS.iconst X0.here hx rfl (hb hby at_15) ?_
    refine XS.iand X0.here hx rfl (hb hby at_16) rfl ?_
    show Steps p.tables e below (s₁.setTop (mkF m 17 #[.val (.int p0), .val (.int p1), .val (.int p2), .val (.int p3), .val (.int p4), .val (.int (3 : Int32)), .val (.int i1), .unset, .unset, .unset, .unset, .unset, .unset] [(.int (((p0.toUInt32 >>> ((4 : Int32) &&& 31).toUInt32).toInt32) &&& (3 : Int32)))])) _
    rw [hv16]
    show Steps p.tables e below (s₁.setTop (mkF m 17 #[.val (.int p0), .val (.int p1), .val (.int p2), .val (.int p3), .val (.int p4), .val (.int (3 : Int32)), .val (.int i1), .unset, .unset, .unset, .unset, .unset, .unset] [(.int i2)])) _
    refine XS.istore X0.here hx rfl (hb hby at_17) rfl (l' := #[.val (.int p0), .val (.int p1), .val (.int p2), .val (.int p3), .val (.int p4), .val (.int (3 : Int32)), .val (.int i1), .val (.int i2), .unset, .unset, .unset, .unset, .unset]) rfl ?_
    refine XS.iloadN X0.here hx rfl (hb hby at_19) rfl ?_
    refine XS.bipush X0.here hx rfl (hb hby at_20) ?_
    refine XS.iushr X0.here hx rfl (hb hby at_22) rfl ?_
    refine XS.iconst X0.here hx rfl (hb hby at_23) ?_
    show Steps p.tables e below (s₁.setTop (mkF m 24 #[.val (.int p0), .val (.int p1), .val (.int p2), .val (.int p3), .val (.int p4), .val (.int (3 : Int32)), .val (.int i1), .val (.int i2), .unset, .unset, .unset, .unset, .unset] [(.int (3 : Int32)), (.int ((p0.toUInt32 >>> ((6 : Int32) &&& 31).toUInt32).toInt32))])) _
    refine XS.iand X0.here hx rfl (hb hby at_24) rfl ?_
    show Steps p.tables e below (s₁.setTop (mkF m 25 #[.val (.int p0), .val (.int p1), .val (.int p2), .val (.int p3), .val (.int p4), .val (.int (3 : Int32)), .val (.int i1), .val (.int i2), .unset, .unset, .unset, .unset, .unset] [(.int (((p0.toUInt32 >>> ((6 : Int32) &&& 31).toUInt32).toInt32) &&& (3 : Int32)))])) _
    rw [hv24]
    show Steps p.tables e below (s₁.setTop (mkF m 25 #[.val (.int p0), .val (.int p1), .val (.int p2), .val (.int p3), .val (.int p4), .val (.int (3 : Int32)), .val (.int i1), .val (.int i2), .unset, .unset, .unset, .unset, .unset] [(.int i3)])) _
    refine XS.istore X0.here hx rfl (hb hby at_25) rfl (l' := #[.val (.int p0), .val (.int p1), .val (.int p2), .val (.int p3), .val (.int p4), .val (.int (3 : Int32)), .val (.int i1), .val (.int i2), .val (.int i3), .unset, .unset, .unset, .unset]) rfl ?_
    refine XS.iloadN X0.here hx rfl (hb hby at_27) rfl ?_
    refine XS.bipush X0.here hx rfl (hb hby at_28) ?_
    refine XS.iushr X0.here hx rfl (hb hby at_30) rfl ?_
    show Steps p.tables e below (s₁.setTop (mkF m 31 #[.val (.int p0), .val (.int p1), .val (.int p2), .val (.int p3), .val (.int p4), .val (.int (3 : Int32)), .val (.int i1), .val (.int i2), .val (.int i3), .unset, .unset, .unset, .unset] [(.int ((p0.toUInt32 >>> ((8 : Int32) &&& 31).toUInt32).toInt32))])) _
    refine XS.iconst X0.here hx rfl (hb hby at_31) ?_
    refine XS.iand X0.here hx rfl (hb hby at_32) rfl ?_
    show Steps p.tables e below (s₁.setTop (mkF m 33 #[.val (.int p0), .val (.int p1), .val (.int p2), .val (.int p3), .val (.int p4), .val (.int (3 : Int32)), .val (.int i1), .val (.int i2), .val (.int i3), .unset, .unset, .unset, .unset] [(.int (((p0.toUInt32 >>> ((8 : Int32) &&& 31).toUInt32).toInt32) &&& (3 : Int32)))])) _
    rw [hv32]
    show Steps p.tables e below (s₁.setTop (mkF m 33 #[.val (.int p0), .val (.int p1), .val (.int p2), .val (.int p3), .val (.int p4), .val (.int (3 : Int32)), .val (.int i1), .val (.int i2), .val (.int i3), .unset, .unset, .unset, .unset] [(.int i4)])) _
    refine XS.istore X0.here hx rfl (hb hby at_33) rfl (l' := #[.val (.int p0), .val (.int p1), .val (.int p2), .val (.int p3), .val (.int p4), .val (.int (3 : Int32)), .val (.int i1), .val (.int i2), .val (.int i3), .val (.int i4), .unset, .unset, .unset]) rfl ?_
    refine st1 _ ?_
    show Steps p.tables e below (T1.setTop (mkF m 38 #[.val (.int p0), .val (.int p1), .val (.int p2), .val (.int p3), .val (.int p4), .val (.int (3 : Int32)), .val (.int i1), .val (.int i2), .val (.int i3), .val (.int i4), .unset, .unset, .unset] [(.ref b1)])) _
    refine XS.dup X1.here hx rfl (hb hby at_38) rfl rfl ?_
    show Steps p.tables e below (T1.setTop (mkF m 39 #[.val (.int p0), .val (.int p1), .val (.int p2), .val (.int p3), .val (.int p4), .val (.int (3 : Int32)), .val (.int i1), .val (.int i2), .val (.int i3), .val (.int i4), .unset, .unset, .unset] [(.ref b1), (.ref b1)])) _
    refine XS.iconst X1.here hx rfl (hb hby at_39) ?_
    refine st2.trans ?_
    show Steps p.tables e below (T2.setTop (mkF m 43 #[.val (.int p0), .val (.int p1), .val (.int p2), .val (.int p3), .val (.int p4), .val (.int (3 : Int32)), .val (.int i1), .val (.int i2), .val (.int i3), .val (.int i4), .unset, .unset, .unset] [(.ref b1)])) _
    refine XS.astore X2.here hx rfl (hb hby at_43) rfl rfl (l' := #[.val (.int p0), .val (.int p1), .val (.int p2), .val (.int p3), .val (.int p4), .val (.int (3 : Int32)), .val (.int i1), .val (.int i2), .val (.int i3), .val (.int i4), .val (.ref b1), .unset, .unset]) rfl ?_
    refine XS.iload X2.here hx rfl (hb hby at_45) rfl ?_
    refine XS.iconst X2.here hx rfl (hb hby at_47) ?_
    refine XS.icmpNo X2.here hx rfl (hb hby at_48) rfl (flt (by decide : ¬ ((3 : Int32) < (1 : Int32)))).1 ?_
    show Steps p.tables e below (T2.setTop (mkF m 51 #[.val (.int p0), .val (.int p1), .val (.int p2), .val (.int p3), .val (.int p4), .val (.int (3 : Int32)), .val (.int i1), .val (.int i2), .val (.int i3), .val (.int i4), .val (.ref b1), .unset, .unset] [])) _
    refine XS.aload X2.here hx rfl (hb hby at_51) rfl rfl ?_
    refine XS.iload X2.here hx rfl (hb hby at_53) rfl ?_
    refine XS.iloadN X2.here hx rfl (hb hby at_55) rfl ?_
    refine XS.i2dS X2.here hx rfl (hb hby at_56) rfl (v := (FP.i2d p1)) rfl ?_
    refine st18.trans ?_
    show Steps p.tables e below (T18.setTop (mkF m 60 #[.val (.int p0), .val (.int p1), .val (.int p2), .val (.int p3), .val (.int p4), .val (.int (3 : Int32)), .val (.int i1), .val (.int i2), .val (.int i3), .val (.int i4), .val (.ref b1), .unset, .unset] [])) _
    refine XS.iload X18.here hx rfl (hb hby at_60) rfl ?_
    show Steps p.tables e below (T18.setTop (mkF m 62 #[.val (.int p0), .val (.int p1), .val (.int p2), .val (.int p3), .val (.int p4), .val (.int (3 : Int32)), .val (.int i1), .val (.int i2), .val (.int i3), .val (.int i4), .val (.ref b1), .unset, .unset] [(.int (3 : Int32))])) _
    refine XS.iconst X18.here hx rfl (hb hby at_62) ?_
    refine XS.icmpNo X18.here hx rfl (hb hby at_63) rfl (flt (by decide : ¬ ((3 : Int32) < (2 : Int32)))).1 ?_
    refine XS.aload X18.here hx rfl (hb hby at_66) rfl rfl ?_
    refine XS.iload X18.here hx rfl (hb hby at_68) rfl ?_
    refine XS.iloadN X18.here hx rfl (hb hby at_70) rfl ?_
    refine XS.i2dS X18.here hx rfl (hb hby at_71) rfl (v := (FP.i2d p2)) rfl ?_
    show Steps p.tables e below (T18.setTop (mkF m 72 #[.val (.int p0), .val (.int p1), .val (.int p2), .val (.int p3), .val (.int p4), .val (.int (3 : Int32)), .val (.int i1), .val (.int i2), .val (.int i3), .val (.int i4), .val (.ref b1), .unset, .unset] [(.double (FP.i2d p2)), (.int i2), (.ref b1)])) _
    refine st28.trans ?_
    show Steps p.tables e below (T28.setTop (mkF m 75 #[.val (.int p0), .val (.int p1), .val (.int p2), .val (.int p3), .val (.int p4), .val (.int (3 : Int32)), .val (.int i1), .val (.int i2), .val (.int i3), .val (.int i4), .val (.ref b1), .unset, .unset] [])) _
    refine XS.iload X28.here hx rfl (hb hby at_75) rfl ?_
    refine XS.iconst X28.here hx rfl (hb hby at_77) ?_
    refine XS.icmpNo X28.here hx rfl (hb hby at_78) rfl (flt (by decide : ¬ ((3 : Int32) < (3 : Int32)))).1 ?_
    refine XS.aload X28.here hx rfl (hb hby at_81) rfl rfl ?_
    refine XS.iload X28.here hx rfl (hb hby at_83) rfl ?_
    show Steps p.tables e below (T28.setTop (mkF m 85 #[.val (.int p0), .val (.int p1), .val (.int p2), .val (.int p3), .val (.int p4), .val (.int (3 : Int32)), .val (.int i1), .val (.int i2), .val (.int i3), .val (.int i4), .val (.ref b1), .unset, .unset] [(.int i3), (.ref b1)])) _
    refine XS.iloadN X28.here hx rfl (hb hby at_85) rfl ?_
    refine XS.i2dS X28.here hx rfl (hb hby at_86) rfl (v := (FP.i2d p3)) rfl ?_
    refine st38.trans ?_
    show Steps p.tables e below (T38.setTop (mkF m 90 #[.val (.int p0), .val (.int p1), .val (.int p2), .val (.int p3), .val (.int p4), .val (.int (3 : Int32)), .val (.int i1), .val (.int i2), .val (.int i3), .val (.int i4), .val (.ref b1), .unset, .unset] [])) _
    refine XS.aload X38.here hx rfl (hb hby at_90) rfl rfl ?_
    refine st54.trans ?_
    show Steps p.tables e below (T54.setTop (mkF m 95 #[.val (.int p0), .val (.int p1), .val (.int p2), .val (.int p3), .val (.int p4), .val (.int (3 : Int32)), .val (.int i1), .val (.int i2), .val (.int i3), .val (.int i4), .val (.ref b1), .unset, .unset] [])) _
    refine XS.aload X54.here hx rfl (hb hby at_95) rfl rfl ?_
    show Steps p.tables e below (T54.setTop (mkF m 97 #[.val (.int p0), .val (.int p1), .val (.int p2), .val (.int p3), .val (.int p4), .val (.int (3 : Int32)), .val (.int i1), .val (.int i2), .val (.int i3), .val (.int i4), .val (.ref b1), .unset, .unset] [(.ref b1)])) _
    refine st65.trans ?_
    show Steps p.tables e below (T65.setTop (mkF m 100 #[.val (.int p0), .val (.int p1), .val (.int p2), .val (.int p3), .val (.int p4), .val (.int (3 : Int32)), .val (.int i1), .val (.int i2), .val (.int i3), .val (.int i4), .val (.ref b1), .unset, .unset] [(.ref b2_2)])) _
    refine XS.astore X65.here hx rfl (hb hby at_100) rfl rfl (l' := #[.val (.int p0), .val (.int p1), .val (.int p2), .val (.int p3), .val (.int p4), .val (.int (3 : Int32)), .val (.int i1), .val (.int i2), .val (.int i3), .val (.int i4), .val (.ref b1), .val (.ref b2_2), .unset]) rfl ?_
    refine XS.aload X65.here hx rfl (hb hby at_102) rfl rfl ?_
    refine st66.trans ?_
    show Steps p.tables e below (T66.setTop (mkF m 107 #[.val (.int p0), .val (.int p1), .val (.int p2), .val (.int p3), .val (.int p4), .val (.int (3 : Int32)), .val (.int i1), .val (.int i2), .val (.int i3), .val (.int i4), .val (.ref b1), .val (.ref b2_2), .unset] [(.int (0 : Int32))])) _
    refine XS.ifNo X66.here hx rfl (hb hby at_107) rfl ((if0 _ _).trans (teq (by decide : (0 : Int32) = (0 : Int32))).2) ?_
    refine XS.aload X66.here hx rfl (hb hby at_110) rfl rfl ?_
    show Steps p.tables e below (T66.setTop (mkF m 112 #[.val (.int p0), .val (.int p1), .val (.int p2), .val (.int p3), .val (.int p4), .val (.int (3 : Int32)), .val (.int i1), .val (.int i2), .val (.int i3), .val (.int i4), .val (.ref b1), .val (.ref b2_2), .unset] [(.ref b2_2)])) _
    refine XS.iconst X66.here hx rfl (hb hby at_112) ?_
    refine X66.daload hx (j := (0 : Int32)) (v := (.double (0 : UInt64))) (by rw [e66]; exact Arq67.1) (State.isArrayOf_alike hZ.alike Arq67.2.1) Arq67.2.2 (inb_of Sq67 ⟨by decide, by decide⟩) (Has.at Hq67 (inb_of Sq67 ⟨by decide, by decide⟩) rfl) (g := (mkF m 113 #[.val (.int p0), .val (.int p1), .val (.int p2), .val (.int p3), .val (.int p4), .val (.int (3 : Int32)), .val (.int i1), .val (.int i2), .val (.int i3), .val (.int i4), .val (.ref b1), .val (.ref b2_2), .unset] [(.int (0 : Int32)), (.ref b2_2)])) rfl rfl (hb hby at_113) _ ?_
    show Steps p.tables e below (T66.setTop (mkF m 114 #[.val (.int p0), .val (.int p1), .val (.int p2), .val (.int p3), .val (.int p4), .val (.int (3 : Int32)), .val (.int i1), .val (.int i2), .val (.int i3), .val (.int i4), .val (.ref b1), .val (.ref b2_2), .unset] [(.double (0 : UInt64))])) _
    refine XS.dconst0 X66.here hx rfl (hb hby at_114) (v := (0 : UInt64)) rfl ?_
    refine XS.dcmpS X66.here hx rfl (hb hby at_115) rfl (v := (0 : Int32)) hd115 ?_
    refine XS.ifNo X66.here hx rfl (hb hby at_116) rfl ((if0 _ _).trans (teq (by decide : (0 : Int32) = (0 : Int32))).2) ?_
    refine XS.aload X66.here hx rfl (hb hby at_119) rfl rfl ?_
    show Steps p.tables e below (T66.setTop (mkF m 121 #[.val (.int p0), .val (.int p1), .val (.int p2), .val (.int p3), .val (.int p4), .val (.int (3 : Int32)), .val (.int i1), .val (.int i2), .val (.int i3), .val (.int i4), .val (.ref b1), .val (.ref b2_2), .unset] [(.ref b2_2)])) _
    refine XS.iconst X66.here hx rfl (hb hby at_121) ?_
    refine X66.daload hx (j := (1 : Int32)) (v := (.double (0 : UInt64))) (by rw [e66]; exact Arq68.1) (State.isArrayOf_alike hZ.alike Arq68.2.1) Arq68.2.2 (inb_of Sq68 ⟨by decide, by decide⟩) (Has.at Hq68 (inb_of Sq68 ⟨by decide, by decide⟩) rfl) (g := (mkF m 122 #[.val (.int p0), .val (.int p1), .val (.int p2), .val (.int p3), .val (.int p4), .val (.int (3 : Int32)), .val (.int i1), .val (.int i2), .val (.int i3), .val (.int i4), .val (.ref b1), .val (.ref b2_2), .unset] [(.int (1 : Int32)), (.ref b2_2)])) rfl rfl (hb hby at_122) _ ?_
    show Steps p.tables e below (T66.setTop (mkF m 123 #[.val (.int p0), .val (.int p1), .val (.int p2), .val (.int p3), .val (.int p4), .val (.int (3 : Int32)), .val (.int i1), .val (.int i2), .val (.int i3), .val (.int i4), .val (.ref b1), .val (.ref b2_2), .unset] [(.double (0 : UInt64))])) _
    refine XS.dconst0 X66.here hx rfl (hb hby at_123) (v := (0 : UInt64)) rfl ?_
    refine XS.dcmpS X66.here hx rfl (hb hby at_124) rfl (v := (0 : Int32)) hd124 ?_
    refine XS.ifNo X66.here hx rfl (hb hby at_125) rfl ((if0 _ _).trans (teq (by decide : (0 : Int32) = (0 : Int32))).2) ?_
    refine XS.aload X66.here hx rfl (hb hby at_128) rfl rfl ?_
    show Steps p.tables e below (T66.setTop (mkF m 130 #[.val (.int p0), .val (.int p1), .val (.int p2), .val (.int p3), .val (.int p4), .val (.int (3 : Int32)), .val (.int i1), .val (.int i2), .val (.int i3), .val (.int i4), .val (.ref b1), .val (.ref b2_2), .unset] [(.ref b2_2)])) _
    refine XS.iconst X66.here hx rfl (hb hby at_130) ?_
    refine X66.daload hx (j := (2 : Int32)) (v := (.double (0 : UInt64))) (by rw [e66]; exact Arq69.1) (State.isArrayOf_alike hZ.alike Arq69.2.1) Arq69.2.2 (inb_of Sq69 ⟨by decide, by decide⟩) (Has.at Hq69 (inb_of Sq69 ⟨by decide, by decide⟩) rfl) (g := (mkF m 131 #[.val (.int p0), .val (.int p1), .val (.int p2), .val (.int p3), .val (.int p4), .val (.int (3 : Int32)), .val (.int i1), .val (.int i2), .val (.int i3), .val (.int i4), .val (.ref b1), .val (.ref b2_2), .unset] [(.int (2 : Int32)), (.ref b2_2)])) rfl rfl (hb hby at_131) _ ?_
    show Steps p.tables e below (T66.setTop (mkF m 132 #[.val (.int p0), .val (.int p1), .val (.int p2), .val (.int p3), .val (.int p4), .val (.int (3 : Int32)), .val (.int i1), .val (.int i2), .val (.int i3), .val (.int i4), .val (.ref b1), .val (.ref b2_2), .unset] [(.double (0 : UInt64))])) _
    refine XS.dconst0 X66.here hx rfl (hb hby at_132) (v := (0 : UInt64)) rfl ?_
    refine XS.dcmpS X66.here hx rfl (hb hby at_133) rfl (v := (0 : Int32)) hd133 ?_
    refine XS.ifNo X66.here hx rfl (hb hby at_134) rfl ((if0 _ _).trans (teq (by decide : (0 : Int32) = (0 : Int32))).2) ?_
    refine XS.aload X66.here hx rfl (hb hby at_137) rfl rfl ?_
    show Steps p.tables e below (T66.setTop (mkF m 139 #[.val (.int p0), .val (.int p1), .val (.int p2), .val (.int p3), .val (.int p4), .val (.int (3 : Int32)), .val (.int i1), .val (.int i2), .val (.int i3), .val (.int i4), .val (.ref b1), .val (.ref b2_2), .unset] [(.ref b2_2)])) _
    refine XS.iconst X66.here hx rfl (hb hby at_139) ?_
    refine X66.daload hx (j := (3 : Int32)) (v := (.double (0 : UInt64))) (by rw [e66]; exact Arq70.1) (State.isArrayOf_alike hZ.alike Arq70.2.1) Arq70.2.2 (inb_of Sq70 ⟨by decide, by decide⟩) (Has.at Hq70 (inb_of Sq70 ⟨by decide, by decide⟩) rfl) (g := (mkF m 140 #[.val (.int p0), .val (.int p1), .val (.int p2), .val (.int p3), .val (.int p4), .val (.int (3 : Int32)), .val (.int i1), .val (.int i2), .val (.int i3), .val (.int i4), .val (.ref b1), .val (.ref b2_2), .unset] [(.int (3 : Int32)), (.ref b2_2)])) rfl rfl (hb hby at_140) _ ?_
    show Steps p.tables e below (T66.setTop (mkF m 141 #[.val (.int p0), .val (.int p1), .val (.int p2), .val (.int p3), .val (.int p4), .val (.int (3 : Int32)), .val (.int i1), .val (.int i2), .val (.int i3), .val (.int i4), .val (.ref b1), .val (.ref b2_2), .unset] [(.double (0 : UInt64))])) _
    refine XS.dconst0 X66.here hx rfl (hb hby at_141) (v := (0 : UInt64)) rfl ?_
    refine XS.dcmpS X66.here hx rfl (hb hby at_142) rfl (v := (0 : Int32)) hd142 ?_
    refine XS.ifNo X66.here hx rfl (hb hby at_143) rfl ((if0 _ _).trans (teq (by decide : (0 : Int32) = (0 : Int32))).2) ?_
    refine XS.iconst X66.here hx rfl (hb hby at_146) ?_
    show Steps p.tables e below (T66.setTop (mkF m 147 #[.val (.int p0), .val (.int p1), .val (.int p2), .val (.int p3), .val (.int p4), .val (.int (3 : Int32)), .val (.int i1), .val (.int i2), .val (.int i3), .val (.int i4), .val (.ref b1), .val (.ref b2_2), .unset] [(.int (1 : Int32))])) _
    refine XS.goto X66.here hx rfl (pc0 := 147) (pc' := 151) rfl (hb hby at_147) (by decide) (by decide) ?_
    refine XS.istore X66.here hx rfl (hb hby at_151) rfl (l' := #[.val (.int p0), .val (.int p1), .val (.int p2), .val (.int p3), .val (.int p4), .val (.int (3 : Int32)), .val (.int i1), .val (.int i2), .val (.int i3), .val (.int i4), .val (.ref b1), .val (.ref b2_2), .val (.int (1 : Int32))]) rfl ?_
    refine XS.aload X66.here hx rfl (hb hby at_153) rfl rfl ?_
    refine XS.iload X66.here hx rfl (hb hby at_155) rfl ?_
    refine XS.iload X66.here hx rfl (hb hby at_157) rfl ?_
    refine XS.i2dS X66.here hx rfl (hb hby at_159) rfl (v := (FP.i2d p4)) rfl ?_
    show Steps p.tables e below (T66.setTop (mkF m 160 #[.val (.int p0), .val (.int p1), .val (.int p2), .val (.int p3), .val (.int p4), .val (.int (3 : Int32)), .val (.int i1), .val (.int i2), .val (.int i3), .val (.int i4), .val (.ref b1), .val (.ref b2_2), .val (.int (1 : Int32))] [(.double (FP.i2d p4)), (.int i4), (.ref b1)])) _
    refine st71.trans ?_
    show Steps p.tables e below (T71.setTop (mkF m 163 #[.val (.int p0), .val (.int p1), .val (.int p2), .val (.int p3), .val (.int p4), .val (.int (3 : Int32)), .val (.int i1), .val (.int i2), .val (.int i3), .val (.int i4), .val (.ref b1), .val (.ref b2_2), .val (.int (1 : Int32))] [])) _
    refine XS.aload X71.here hx rfl (hb hby at_163) rfl rfl ?_
    refine st81.trans ?_
    show Steps p.tables e below (T81.setTop (mkF m 168 #[.val (.int p0), .val (.int p1), .val (.int p2), .val (.int p3), .val (.int p4), .val (.int (3 : Int32)), .val (.int i1), .val (.int i2), .val (.int i3), .val (.int i4), .val (.ref b1), .val (.ref b2_2), .val (.int (1 : Int32))] [(.ref b2_2)])) _
    refine XS.astore X81.here hx rfl (hb hby at_168) rfl rfl (l' := #[.val (.int p0), .val (.int p1), .val (.int p2), .val (.int p3), .val (.int p4), .val (.int (3 : Int32)), .val (.int i1), .val (.int i2), .val (.int i3), .val (.int i4), .val (.ref b1), .val (.ref b2_2), .val (.int (1 : Int32))]) rfl ?_
    refine XS.iload X81.here hx rfl (hb hby at_170) rfl ?_
    refine XS.ifNo X81.here hx rfl (hb hby at_172) rfl ((if0 _ _).trans (feq (by decide : ¬ ((1 : Int32) = (0 : Int32)))).1) ?_
    show Steps p.tables e below (T81.setTop (mkF m 175 #[.val (.int p0), .val (.int p1), .val (.int p2), .val (.int p3), .val (.int p4), .val (.int (3 : Int32)), .val (.int i1), .val (.int i2), .val (.int i3), .val (.int i4), .val (.ref b1), .val (.ref b2_2), .val (.int (1 : Int32))] [])) _
    refine XS.aload X81.here hx rfl (hb hby at_175) rfl rfl ?_
    refine st82.trans ?_
    show Steps p.tables e below (T82.setTop (mkF m 180 #[.val (.int p0), .val (.int p1), .val (.int p2), .val (.int p3), .val (.int p4), .val (.int (3 : Int32)), .val (.int i1), .val (.int i2), .val (.int i3), .val (.int i4), .val (.ref b1), .val (.ref b2_2), .val (.int (1 : Int32))] [(.int (1 : Int32))])) _
    refine XS.iconst X82.here hx rfl (hb hby at_180) ?_
    refine XS.icmpNo X82.here hx rfl (hb hby at_181) rfl (teq (by decide : (1 : Int32) = (1 : Int32))).2 ?_
    refine XS.aload X82.here hx rfl (hb hby at_184) rfl rfl ?_
    refine st83.trans ?_
    show Steps p.tables e below (T83.setTop (mkF m 189 #[.val (.int p0), .val (.int p1), .val (.int p2), .val (.int p3), .val (.int p4), .val (.int (3 : Int32)), .val (.int i1), .val (.int i2), .val (.int i3), .val (.int i4), .val (.ref b1), .val (.ref b2_2), .val (.int (1 : Int32))] [(.ref b30_2)])) _
    refine XS.iconst X83.here hx rfl (hb hby at_189) ?_
    refine X83.iaload hx (j := (0 : Int32)) (v := (.int i4)) (by rw [e83]; exact Arq84.1) (State.isArrayOf_alike hZ.alike Arq84.2.1) Arq84.2.2 (inb_of Sq84 ⟨by decide, by decide⟩) (Has.at Hq84 (inb_of Sq84 ⟨by decide, by decide⟩) rfl) (g := (mkF m 190 #[.val (.int p0), .val (.int p1), .val (.int p2), .val (.int p3), .val (.int p4), .val (.int (3 : Int32)), .val (.int i1), .val (.int i2), .val (.int i3), .val (.int i4), .val (.ref b1), .val (.ref b2_2), .val (.int (1 : Int32))] [(.int (0 : Int32)), (.ref b30_2)])) rfl rfl (hb hby at_190) _ ?_
    show Steps p.tables e below (T83.setTop (mkF m 191 #[.val (.int p0), .val (.int p1), .val (.int p2), .val (.int p3), .val (.int p4), .val (.int (3 : Int32)), .val (.int i1), .val (.int i2), .val (.int i3), .val (.int i4), .val (.ref b1), .val (.ref b2_2), .val (.int (1 : Int32))] [(.int i4)])) _
    refine XS.iload X83.here hx rfl (hb hby at_191) rfl ?_
    refine XS.icmpNo X83.here hx rfl (hb hby at_193) rfl (teq (rfl : i4 = i4)).2 ?_
    refine XS.aload X83.here hx rfl (hb hby at_196) rfl rfl ?_
    refine XS.iload X83.here hx rfl (hb hby at_198) rfl ?_
    show Steps p.tables e below (T83.setTop (mkF m 200 #[.val (.int p0), .val (.int p1), .val (.int p2), .val (.int p3), .val (.int p4), .val (.int (3 : Int32)), .val (.int i1), .val (.int i2), .val (.int i3), .val (.int i4), .val (.ref b1), .val (.ref b2_2), .val (.int (1 : Int32))] [(.int i4), (.ref b2_2)])) _
    refine X83.daload hx (j := i4) (v := (.double y9)) (by rw [e83]; exact Arq85.1) (State.isArrayOf_alike hZ.alike Arq85.2.1) Arq85.2.2 (inb_of Sq85 hix4) (Has.at Hq85 (inb_of Sq85 hix4) hr200) (g := (mkF m 200 #[.val (.int p0), .val (.int p1), .val (.int p2), .val (.int p3), .val (.int p4), .val (.int (3 : Int32)), .val (.int i1), .val (.int i2), .val (.int i3), .val (.int i4), .val (.ref b1), .val (.ref b2_2), .val (.int (1 : Int32))] [(.int i4), (.ref b2_2)])) rfl rfl (hb hby at_200) _ ?_
    show Steps p.tables e below (T83.setTop (mkF m 201 #[.val (.int p0), .val (.int p1), .val (.int p2), .val (.int p3), .val (.int p4), .val (.int (3 : Int32)), .val (.int i1), .val (.int i2), .val (.int i3), .val (.int i4), .val (.ref b1), .val (.ref b2_2), .val (.int (1 : Int32))] [(.double y9)])) _
    refine XS.iload X83.here hx rfl (hb hby at_201) rfl ?_
    refine XS.i2dS X83.here hx rfl (hb hby at_203) rfl (v := (FP.i2d p4)) rfl ?_
    refine XS.dcmpS X83.here hx rfl (hb hby at_204) rfl (v := (0 : Int32)) hd204 ?_
    refine XS.ifNo X83.here hx rfl (hb hby at_205) rfl ((if0 _ _).trans (teq (by decide : (0 : Int32) = (0 : Int32))).2) ?_
    refine XS.iconst X83.here hx rfl (hb hby at_208) ?_
    show Steps p.tables e below (T83.setTop (mkF m 209 #[.val (.int p0), .val (.int p1), .val (.int p2), .val (.int p3), .val (.int p4), .val (.int (3 : Int32)), .val (.int i1), .val (.int i2), .val (.int i3), .val (.int i4), .val (.ref b1), .val (.ref b2_2), .val (.int (1 : Int32))] [(.int (1 : Int32))])) _
    refine XS.goto X83.here hx rfl (pc0 := 209) (pc' := 213) rfl (hb hby at_209) (by decide) (by decide) ?_
    refine XS.istore X83.here hx rfl (hb hby at_213) rfl (l' := #[.val (.int p0), .val (.int p1), .val (.int p2), .val (.int p3), .val (.int p4), .val (.int (3 : Int32)), .val (.int i1), .val (.int i2), .val (.int i3), .val (.int i4), .val (.ref b1), .val (.ref b2_2), .val (.int (1 : Int32))]) rfl ?_
    refine XS.iload X83.here hx rfl (hb hby at_215) rfl ?_
    refine XS.ifNo X83.here hx rfl (hb hby at_217) rfl ((if0 _ _).trans (feq (by decide : ¬ ((1 : Int32) = (0 : Int32)))).1) ?_
    refine XS.aload X83.here hx rfl (hb hby at_220) rfl rfl ?_
    refine XS.iconst X83.here hx rfl (hb hby at_222) ?_
    show Steps p.tables e below (T83.setTop (mkF m 223 #[.val (.int p0), .val (.int p1), .val (.int p2), .val (.int p3), .val (.int p4), .val (.int (3 : Int32)), .val (.int i1), .val (.int i2), .val (.int i3), .val (.int i4), .val (.ref b1), .val (.ref b2_2), .val (.int (1 : Int32))] [(.int (0 : Int32)), (.ref b2_2)])) _
    refine XS.iload X83.here hx rfl (hb hby at_223) rfl ?_
    refine st86 _ ?_
    show Steps p.tables e below (T86.setTop (mkF m 228 #[.val (.int p0), .val (.int p1), .val (.int p2), .val (.int p3), .val (.int p4), .val (.int (3 : Int32)), .val (.int i1), .val (.int i2), .val (.int i3), .val (.int i4), .val (.ref b1), .val (.ref b2_2), .val (.int (1 : Int32))] [(.int (1 : Int32))])) _
    refine XS.ifNo X86.here hx rfl (hb hby at_228) rfl ((if0 _ _).trans (feq (by decide : ¬ ((1 : Int32) = (0 : Int32)))).1) ?_
    refine XS.aload X86.here hx rfl (hb hby at_231) rfl rfl ?_
    refine XS.iconst X86.here hx rfl (hb hby at_233) ?_
    refine XS.iload X86.here hx rfl (hb hby at_234) rfl ?_
    show Steps p.tables e below (T86.setTop (mkF m 236 #[.val (.int p0), .val (.int p1), .val (.int p2), .val (.int p3), .val (.int p4), .val (.int (3 : Int32)), .val (.int i1), .val (.int i2), .val (.int i3), .val (.int i4), .val (.ref b1), .val (.ref b2_2), .val (.int (1 : Int32))] [(.int i4), (.int (1 : Int32)), (.ref b2_2)])) _
    refine st87 _ ?_
    show Steps p.tables e below (T87.setTop (mkF m 239 #[.val (.int p0), .val (.int p1), .val (.int p2), .val (.int p3), .val (.int p4), .val (.int (3 : Int32)), .val (.int i1), .val (.int i2), .val (.int i3), .val (.int i4), .val (.ref b1), .val (.ref b2_2), .val (.int (1 : Int32))] [(.int (1 : Int32))])) _
    refine XS.ifNo X87.here hx rfl (hb hby at_239) rfl ((if0 _ _).trans (feq (by decide : ¬ ((1 : Int32) = (0 : Int32)))).1) ?_
    refine XS.aload X87.here hx rfl (hb hby at_242) rfl rfl ?_
    refine XS.iconst X87.here hx rfl (hb hby at_244) ?_
    refine XS.iload X87.here hx rfl (hb hby at_245) rfl ?_
    refine st88 _ ?_
    show Steps p.tables e below (T88.setTop (mkF m 250 #[.val (.int p0), .val (.int p1), .val (.int p2), .val (.int p3), .val (.int p4), .val (.int (3 : Int32)), .val (.int i1), .val (.int i2), .val (.int i3), .val (.int i4), .val (.ref b1), .val (.ref b2_2), .val (.int (1 : Int32))] [(.int (1 : Int32))])) _
    refine XS.ifNo X88.here hx rfl (hb hby at_250) rfl ((if0 _ _).trans (feq (by decide : ¬ ((1 : Int32) = (0 : Int32)))).1) ?_
    refine XS.aload X88.here hx rfl (hb hby at_253) rfl rfl ?_
    refine XS.iconst X88.here hx rfl (hb hby at_255) ?_
    refine XS.iload X88.here hx rfl (hb hby at_256) rfl ?_
    refine st89 _ ?_
    show Steps p.tables e below (T89.setTop (mkF m 261 #[.val (.int p0), .val (.int p1), .val (.int p2), .val (.int p3), .val (.int p4), .val (.int (3 : Int32)), .val (.int i1), .val (.int i2), .val (.int i3), .val (.int i4), .val (.ref b1), .val (.ref b2_2), .val (.int (1 : Int32))] [(.int (1 : Int32))])) _
    refine XS.ifNo X89.here hx rfl (hb hby at_261) rfl ((if0 _ _).trans (feq (by decide : ¬ ((1 : Int32) = (0 : Int32)))).1) ?_
    show Steps p.tables e below (T89.setTop (mkF m 264 #[.val (.int p0), .val (.int p1), .val (.int p2), .val (.int p3), .val (.int p4), .val (.int (3 : Int32)), .val (.int i1), .val (.int i2), .val (.int i3), .val (.int i4), .val (.ref b1), .val (.ref b2_2), .val (.int (1 : Int32))] [])) _
    refine XS.iconst X89.here hx rfl (hb hby at_264) ?_
    refine XS.goto X89.here hx rfl (pc0 := 265) (pc' := 269) rfl (hb hby at_265) (by decide) (by decide) ?_
    refine XS.istore X89.here hx rfl (hb hby at_269) rfl (l' := #[.val (.int p0), .val (.int p1), .val (.int p2), .val (.int p3), .val (.int p4), .val (.int (3 : Int32)), .val (.int i1), .val (.int i2), .val (.int i3), .val (.int i4), .val (.ref b1), .val (.ref b2_2), .val (.int (1 : Int32))]) rfl ?_
    refine XS.iload X89.here hx rfl (hb hby at_271) rfl ?_
    exact retN X89 hx (t := .boolean) Bd.returns (by simp) (hb hby at_273) hr
  · show Q0 n0 _ T89.heap _
    rw [e89]
    exact ⟨rfl, N89⟩
set_option maxRecDepth 65536 in
set_option maxHeartbeats 40000000 in
theorem rm3DN (l : Launch) (Z : State) (a0 : Array Value) (hw : ∀ d ∈ tables_1, d.before a0 Z = true) (ws : List Jvm.Cond) (p0 : Int32) (p1 : Int32) (p2 : Int32) (p3 : Int32) (p4 : Int32) (i4 : Int32) (U1 : List Value) (x1 : UInt64) (y1 : UInt64) (M1 : List Value) (U2 : List Value) (x2 : UInt64) (y2 : UInt64) (M2 : List Value) (U3 : List Value) (x3 : UInt64) (y3 : UInt64) (M3 : List Value) (U9 : List Value) (M9 : List Value) (y9 : UInt64) (i1 : Int32) (i2 : Int32) (i3 : Int32) (h0 : Heap) (n0 : Nat) (Z0 : n0 ≤ h0.size) (hix4 : ¬ i4 < 0 ∧ i4 < (4 : Int32)) (hr200 : U9.getD i4.toNatClampNeg (.double (0 : UInt64)) = .double y9) (hv2 : (p0 &&& (3 : Int32)) = (3 : Int32)) (hv9 : (((p0.toUInt32 >>> ((2 : Int32) &&& 31).toUInt32).toInt32) &&& (3 : Int32)) = i1) (hv16 : (((p0.toUInt32 >>> ((4 : Int32) &&& 31).toUInt32).toInt32) &&& (3 : Int32)) = i2) (hv24 : (((p0.toUInt32 >>> ((6 : Int32) &&& 31).toUInt32).toInt32) &&& (3 : Int32)) = i3) (hv32 : (((p0.toUInt32 >>> ((8 : Int32) &&& 31).toUInt32).toInt32) &&& (3 : Int32)) = i4) (hix_57 : ¬ i1 < 0 ∧ i1 < (4 : Int32)) (hrl_57 : ([(.int (0 : Int32)), (.int (0 : Int32)), (.int (0 : Int32)), (.int (0 : Int32))] : List Value).getD i1.toNatClampNeg (.int (0 : Int32)) = .int (0 : Int32)) (hrv_57 : ([(.double (0 : UInt64)), (.double (0 : UInt64)), (.double (0 : UInt64)), (.double (0 : UInt64))] : List Value).getD i1.toNatClampNeg (.double (0 : UInt64)) = .double x1) (hvl_57 : i1.toNatClampNeg < ([(.double (0 : UInt64)), (.double (0 : UInt64)), (.double (0 : UInt64)), (.double (0 : UInt64))] : List Value).length) (hll_57 : i1.toNatClampNeg < ([(.int (0 : Int32)), (.int (0 : Int32)), (.int (0 : Int32)), (.int (0 : Int32))] : List Value).length) (hls_57 : (([(.int (0 : Int32)), (.int (0 : Int32)), (.int (0 : Int32)), (.int (0 : Int32))] : List Value).set i1.toNatClampNeg (.int (1 : Int32))) = M1) (hvs_57 : (([(.double (0 : UInt64)), (.double (0 : UInt64)), (.double (0 : UInt64)), (.double (0 : UInt64))] : List Value).set i1.toNatClampNeg (.double y1)) = U1) (nn41_57 : Jvm.Free.Fl.NoNaN64 (FP.dadd x1 (FP.i2d p1))) (hq41_57 : (FP.dadd x1 (FP.i2d p1)) = y1) (hix_72 : ¬ i2 < 0 ∧ i2 < (4 : Int32)) (hrl_72 : M1.getD i2.toNatClampNeg (.int (0 : Int32)) = .int (0 : Int32)) (hrv_72 : U1.getD i2.toNatClampNeg (.double (0 : UInt64)) = .double x2) (hvl_72 : i2.toNatClampNeg < U1.length) (hll_72 : i2.toNatClampNeg < M1.length) (hls_72 : (M1.set i2.toNatClampNeg (.int (1 : Int32))) = M2) (hvs_72 : (U1.set i2.toNatClampNeg (.double y2)) = U2) (nn41_72 : Jvm.Free.Fl.NoNaN64 (FP.dadd x2 (FP.i2d p2))) (hq41_72 : (FP.dadd x2 (FP.i2d p2)) = y2) (hix_87 : ¬ i3 < 0 ∧ i3 < (4 : Int32)) (hrl_87 : M2.getD i3.toNatClampNeg (.int (0 : Int32)) = .int (0 : Int32)) (hrv_87 : U2.getD i3.toNatClampNeg (.double (0 : UInt64)) = .double x3) (hvl_87 : i3.toNatClampNeg < U2.length) (hll_87 : i3.toNatClampNeg < M2.length) (hls_87 : (M2.set i3.toNatClampNeg (.int (1 : Int32))) = M3) (hvs_87 : (U2.set i3.toNatClampNeg (.double y3)) = U3) (nn41_87 : Jvm.Free.Fl.NoNaN64 (FP.dadd x3 (FP.i2d p3))) (hq41_87 : (FP.dadd x3 (FP.i2d p3)) = y3) (hx0_92 : ¬ i1 < 0 ∧ i1 < (4 : Int32)) (hv0_92 : i1.toNatClampNeg < U3.length) (hl0_92 : i1.toNatClampNeg < M3.length) (hx1_92 : ¬ i2 < 0 ∧ i2 < (4 : Int32)) (hv1_92 : i2.toNatClampNeg < U3.length) (hl1_92 : i2.toNatClampNeg < M3.length) (hx2_92 : ¬ i3 < 0 ∧ i3 < (4 : Int32)) (hv2_92 : i3.toNatClampNeg < U3.length) (hl2_92 : i3.toNatClampNeg < M3.length) (hvs_92 : (((U3.set i1.toNatClampNeg (.double (0 : UInt64))).set i2.toNatClampNeg (.double (0 : UInt64))).set i3.toNatClampNeg (.double (0 : UInt64))) = ([(.double (0 : UInt64)), (.double (0 : UInt64)), (.double (0 : UInt64)), (.double (0 : UInt64))] : List Value)) (hls_92 : (((M3.set i1.toNatClampNeg (.int (0 : Int32))).set i2.toNatClampNeg (.int (0 : Int32))).set i3.toNatClampNeg (.int (0 : Int32))) = ([(.int (0 : Int32)), (.int (0 : Int32)), (.int (0 : Int32)), (.int (0 : Int32))] : List Value)) (hd115 : (cmpValue (FP.dcmp (0 : UInt64) (0 : UInt64)) .l) = (0 : Int32)) (hd124 : (cmpValue (FP.dcmp (0 : UInt64) (0 : UInt64)) .l) = (0 : Int32)) (hd133 : (cmpValue (FP.dcmp (0 : UInt64) (0 : UInt64)) .l) = (0 : Int32)) (hd142 : (cmpValue (FP.dcmp (0 : UInt64) (0 : UInt64)) .l) = (0 : Int32)) (hix_160 : ¬ i4 < 0 ∧ i4 < (4 : Int32)) (hrl_160 : ([(.int (0 : Int32)), (.int (0 : Int32)), (.int (0 : Int32)), (.int (0 : Int32))] : List Value).getD i4.toNatClampNeg (.int (0 : Int32)) = .int (0 : Int32)) (hrv_160 : ([(.double (0 : UInt64)), (.double (0 : UInt64)), (.double (0 : UInt64)), (.double (0 : UInt64))] : List Value).getD i4.toNatClampNeg (.double (0 : UInt64)) = .double (0 : UInt64)) (hvl_160 : i4.toNatClampNeg < ([(.double (0 : UInt64)), (.double (0 : UInt64)), (.double (0 : UInt64)), (.double (0 : UInt64))] : List Value).length) (hll_160 : i4.toNatClampNeg < ([(.int (0 : Int32)), (.int (0 : Int32)), (.int (0 : Int32)), (.int (0 : Int32))] : List Value).length) (hls_160 : (([(.int (0 : Int32)), (.int (0 : Int32)), (.int (0 : Int32)), (.int (0 : Int32))] : List Value).set i4.toNatClampNeg (.int (1 : Int32))) = M9) (hvs_160 : (([(.double (0 : UInt64)), (.double (0 : UInt64)), (.double (0 : UInt64)), (.double (0 : UInt64))] : List Value).set i4.toNatClampNeg (.double y9)) = U9) (nn41_160 : Jvm.Free.Fl.NoNaN64 (FP.dadd (0 : UInt64) (FP.i2d p4))) (hq41_160 : (FP.dadd (0 : UInt64) (FP.i2d p4)) = y9) (hd204 : (cmpValue (FP.dcmp y9 (FP.i2d p4)) .l) = (0 : Int32)) (hix_225 : ¬ (0 : Int32) < 0 ∧ (0 : Int32) < (4 : Int32)) (hrd_225 : ¬ ((0 : Int32) = i4) → U9.getD (0 : Int32).toNatClampNeg (.double (0 : UInt64)) = .double (0 : UInt64)) (hd9_225 : (cmpValue (FP.dcmp (0 : UInt64) (0 : UInt64)) .l) = (0 : Int32)) (hix_236 : ¬ (1 : Int32) < 0 ∧ (1 : Int32) < (4 : Int32)) (hrd_236 : ¬ ((1 : Int32) = i4) → U9.getD (1 : Int32).toNatClampNeg (.double (0 : UInt64)) = .double (0 : UInt64)) (hd9_236 : (cmpValue (FP.dcmp (0 : UInt64) (0 : UInt64)) .l) = (0 : Int32)) (hix_247 : ¬ (2 : Int32) < 0 ∧ (2 : Int32) < (4 : Int32)) (hrd_247 : ¬ ((2 : Int32) = i4) → U9.getD (2 : Int32).toNatClampNeg (.double (0 : UInt64)) = .double (0 : UInt64)) (hd9_247 : (cmpValue (FP.dcmp (0 : UInt64) (0 : UInt64)) .l) = (0 : Int32)) (hix_258 : ¬ (3 : Int32) < 0 ∧ (3 : Int32) < (4 : Int32)) (hrd_258 : ¬ ((3 : Int32) = i4) → U9.getD (3 : Int32).toNatClampNeg (.double (0 : UInt64)) = .double (0 : UInt64)) (hd9_258 : (cmpValue (FP.dcmp (0 : UInt64) (0 : UInt64)) .l) = (0 : Int32)) :
    MetFree l x (head1 (Jvm.Cond.code x code maxLocals ret :: ws) room_1) (fun a U => a = #[(.int p0), (.int p1), (.int p2), (.int p3), (.int p4)] ∧ Z.Warmed39 U.vm ∧ U.heap = h0) (fun _ _ _ _ _ => True) (fun _ U o U' => ∃ v L, o = .returned v ∧ Q0 n0 v U'.heap L ∧ FrameEnd U o U' L room_1.cells room_1.slots) := by
  refine MetFree.of_bodySF (plainFor_of_name pn_com_example_leeway_leeway_lp_SparseColumnClearPinLaw) hisR ?_
  intro p e s m args below meth c s₁ Bd hml0 hP hK
  obtain ⟨rfl, hZ, hh⟩ := hP
  have hx := Bd.exec
  have hby := Bd.bytes
  have hml : c.maxLocals = 13 := hml0
  have hown : s.vm.findClass "com/example/leeway/leeway/lp/SparseColumnClearPinLaw" = some m.cls := findClass_of_methodNamed Bd.named
  have hnm := (name_of_methodNamed Bd.named Bd.method).1
  have X0 : Stand p l e room_1 s m #[(.int p0), (.int p1), (.int p2), (.int p3), (.int p4)] below meth c s₁ [] 0 0 := Stand.of_body Bd
  have e0 : s₁.heap = h0 := by rw [← hh, Bd.state]; rfl
  have N0 := Fr.nil n0
  have pre0 : ∀ t, Steps p.tables e below (s₁.setTop (mkF m 0 #[.val (.int p0), .val (.int p1), .val (.int p2), .val (.int p3), .val (.int p4), .unset, .unset, .unset, .unset, .unset, .unset, .unset, .unset] [])) t → Steps p.tables e below (s₁.setTop (entryFrame m #[(.int p0), (.int p1), (.int p2), (.int p3), (.int p4)] maxLocals)) t := fun t k => castTop (ef_0_IIIII m p0 p1 p2 p3 p4) k
  obtain ⟨T1, h1, X1, e1, E1, A1, D1, -, st1⟩ := newO X0 hx hZ hown (hw _ (List.mem_of_getElem? (i := 0) rfl)) (hw _ (List.mem_of_getElem? (i := 1) rfl)) (hw _ (List.mem_of_getElem? (i := 2) rfl)) e0 (g := (mkF m 35 #[.val (.int p0), .val (.int p1), .val (.int p2), .val (.int p3), .val (.int p4), .val (.int (3 : Int32)), .val (.int i1), .val (.int i2), .val (.int i3), .val (.int i4), .unset, .unset, .unset] [])) rfl (hb hby at_35) (by decide) (by decide)
  obtain ⟨b1, g1⟩ : ∃ z, z = h0.size := ⟨_, rfl⟩
  rw [← g1] at A1 D1 st1
  have g_b1 : n0 ≤ b1 := Nat.le_trans Z0 (Nat.le_of_eq g1.symm)
  have sz_b1 : h0.size ≤ b1 := Nat.le_trans (Keep.refl h0 []).1 (Nat.le_of_eq g1.symm)
  have K1 : Keep h0 h1 [] := (Keep.refl h0 []).ext E1
  have Zs1 := Nat.le_trans Z0 E1.1
  have F1_values : Fld Z h1 b1 "com/example/leeway/leeway/lp/SparseColumn" "values" "[D" .null := D1 (Or.inr (hw _ (List.mem_of_getElem? (i := 11) rfl))) (ty := (.array .double)) (by decide)
  have F1_listed : Fld Z h1 b1 "com/example/leeway/leeway/lp/SparseColumn" "listed" "[Z" .null := D1 (Or.inr (hw _ (List.mem_of_getElem? (i := 14) rfl))) (ty := (.array .boolean)) (by decide)
  have F1_rows : Fld Z h1 b1 "com/example/leeway/leeway/lp/SparseColumn" "rows" "[I" .null := D1 (Or.inr (hw _ (List.mem_of_getElem? (i := 17) rfl))) (ty := (.array .int)) (by decide)
  have F1_count : Fld Z h1 b1 "com/example/leeway/leeway/lp/SparseColumn" "count" "I" (.int (0 : Int32)) := D1 (Or.inl (hw _ (List.mem_of_getElem? (i := 24) rfl))) (ty := .int) (by decide)
  obtain ⟨_, _, ⟨T2, L2, k2, n2⟩, -, X2, ⟨Lc2, hQ2, l2, y2, z2⟩, st2⟩ := X1.specialBack hx (y := (⟨"com/example/leeway/leeway/lp/SparseColumn", "<init>", "(I)V"⟩ : MethodName)) rfl hown (mvT hZ (hw _ (List.mem_of_getElem? (i := 3) rfl))) (mvT hZ (hw _ (List.mem_of_getElem? (i := 4) rfl))) (mvT hZ (hw _ (List.mem_of_getElem? (i := 5) rfl))) (by decide) (backOf (W := 1) (sci l Z a0 hw [] b1 h1 n0 Zs1 g_b1 A1 F1_values F1_listed F1_rows F1_count) hZ (hw _ (List.mem_of_getElem? (i := 5) rfl)) (hw _ (List.mem_of_getElem? (i := 2) rfl)) (by decide) (by decide)) (g := (mkF m 40 #[.val (.int p0), .val (.int p1), .val (.int p2), .val (.int p3), .val (.int p4), .val (.int (3 : Int32)), .val (.int i1), .val (.int i2), .val (.int i3), .val (.int i4), .unset, .unset, .unset] [(.int (4 : Int32)), (.ref b1), (.ref b1)])) rfl (by rw [hml]; rfl) (Steps.refl _) (a := b1) (argsL := [(.int (4 : Int32))]) (rest := [(.ref b1)]) (lenOf pd_0 rfl) rfl (by show 2 * 0 + _ ≤ _; exact Nat.le_of_eq rfl) (hb hby at_40) (fun _ _ => ⟨rfl, e1, (by decide : 1 + 3 ≤ _), (by decide : 4 + 12 ≤ _)⟩)
  dsimp only [Pt.U, Pt.locs, Pt.cells, Pt.slots] at X2 l2 y2 z2 st2 hQ2
  subst l2 y2 z2
  obtain ⟨b2_2, b15_2, b30_2, k2_2, k15_2, k30_2, rfl, N2q, K2q, r3, r4, r5, r6, r7, r8, f9, f10, f11, f12, f13, f14, f15, f16⟩ := hQ2
  have N2 := Fr.app N0 N2q
  have ne_b1_b2_2 : b1 ≠ b2_2 := Nat.ne_of_lt (Nat.lt_of_lt_of_le A1.lt r3)
  have g_b2_2 : n0 ≤ b2_2 := Nat.le_trans Zs1 r3
  have sz_b2_2 : h0.size ≤ b2_2 := Nat.le_trans K1.1 r3
  have ne_b1_b15_2 : b1 ≠ b15_2 := Nat.ne_of_lt (Nat.lt_of_lt_of_le A1.lt r4)
  have g_b15_2 : n0 ≤ b15_2 := Nat.le_trans Zs1 r4
  have sz_b15_2 : h0.size ≤ b15_2 := Nat.le_trans K1.1 r4
  have ne_b1_b30_2 : b1 ≠ b30_2 := Nat.ne_of_lt (Nat.lt_of_lt_of_le A1.lt r5)
  have g_b30_2 : n0 ≤ b30_2 := Nat.le_trans Zs1 r5
  have sz_b30_2 : h0.size ≤ b30_2 := Nat.le_trans K1.1 r5
  have f17 := A1.keep K2q
  have K2 : Keep h0 T2.heap [] := K1.trans K2q (own_allS (Or.inr sz_b1) own_all0)
  have Zs2 := Nat.le_trans Zs1 K2q.1
  obtain ⟨cq18, kq18, q18a, q18b, q18c⟩ := isOf hZ rfl f9
  obtain ⟨_, _, ⟨T18, L18, k18, n18⟩, -, X18, ⟨Lc18, hQ18, l18, y18, z18⟩, st18⟩ := X2.virtualBack hx (y := (⟨"com/example/leeway/leeway/lp/SparseColumn", "add", "(ID)V"⟩ : MethodName)) (z := (⟨"com/example/leeway/leeway/lp/SparseColumn", "add", "(ID)V"⟩ : MethodName)) hown (mvT hZ (hw _ (List.mem_of_getElem? (i := 35) rfl))) (mvT hZ (hw _ (List.mem_of_getElem? (i := 36) rfl))) (notFace_of_selects (args := #[]) (mvT hZ (hw _ (List.mem_of_getElem? (i := 38) rfl)))) (mvT hZ (hw _ (List.mem_of_getElem? (i := 38) rfl))) (mvT hZ (hw _ (List.mem_of_getElem? (i := 37) rfl))) (by decide) (backOf (W := 0) (addN0 l Z a0 hw [] b1 b2_2 b15_2 b30_2 k2_2 k15_2 k30_2 (0 : Int32) (0 : Int32) (0 : Int32) (0 : Int32) ([(.double (0 : UInt64)), (.double (0 : UInt64)), (.double (0 : UInt64)), (.double (0 : UInt64))] : List Value) ([(.int (0 : Int32)), (.int (0 : Int32)), (.int (0 : Int32)), (.int (0 : Int32))] : List Value) U1 M1 i1 (FP.i2d p1) x1 y1 T2.heap n0 Zs2 f10 f11 f12 f13 f9 f14 f15 f16 g_b1 g_b2_2 g_b15_2 g_b30_2 ne_b1_b2_2 ne_b1_b15_2 ne_b1_b30_2 r6 r7 r8 hix_57 hrl_57 hrv_57 hvl_57 hll_57 hls_57 hvs_57 nn41_57 hq41_57) hZ (hw _ (List.mem_of_getElem? (i := 39) rfl)) (hw _ (List.mem_of_getElem? (i := 2) rfl)) (by decide) (by decide)) q18a q18c (g := (mkF m 57 #[.val (.int p0), .val (.int p1), .val (.int p2), .val (.int p3), .val (.int p4), .val (.int (3 : Int32)), .val (.int i1), .val (.int i2), .val (.int i3), .val (.int i4), .val (.ref b1), .unset, .unset] [(.double (FP.i2d p1)), (.int i1), (.ref b1)])) rfl (by rw [hml]; rfl) (Steps.refl _) (argsL := [(.int i1), (.double (FP.i2d p1))]) (rest := []) (lenOf pd_4 rfl) rfl (by show 2 * 0 + _ ≤ _; exact Nat.le_of_eq rfl) (hb hby at_57) (fun _ _ => ⟨rfl, rfl, (by decide : 4 + 0 ≤ _), (by decide : 16 + 0 ≤ _)⟩)
  dsimp only [Pt.U, Pt.locs, Pt.cells, Pt.slots] at X18 l18 y18 z18 st18 hQ18
  subst l18 y18 z18
  obtain ⟨rfl, N18q, K18q, f19, f20, f21, f22, f23, f24, f25, f26⟩ := hQ18
  have N18 := Fr.app N2 N18q
  have f27 := f9.keep K18q
  have K18 : Keep h0 T18.heap [] := K2.trans K18q (own_allS (Or.inr sz_b15_2) (own_allS (Or.inr sz_b1) (own_allS (Or.inr sz_b30_2) (own_allS (Or.inr sz_b2_2) own_all0))))
  have Zs18 := Nat.le_trans Zs2 K18q.1
  obtain ⟨cq28, kq28, q28a, q28b, q28c⟩ := isOf hZ rfl f19
  obtain ⟨_, _, ⟨T28, L28, k28, n28⟩, -, X28, ⟨Lc28, hQ28, l28, y28, z28⟩, st28⟩ := X18.virtualBack hx (y := (⟨"com/example/leeway/leeway/lp/SparseColumn", "add", "(ID)V"⟩ : MethodName)) (z := (⟨"com/example/leeway/leeway/lp/SparseColumn", "add", "(ID)V"⟩ : MethodName)) hown (mvT hZ (hw _ (List.mem_of_getElem? (i := 35) rfl))) (mvT hZ (hw _ (List.mem_of_getElem? (i := 36) rfl))) (notFace_of_selects (args := #[]) (mvT hZ (hw _ (List.mem_of_getElem? (i := 38) rfl)))) (mvT hZ (hw _ (List.mem_of_getElem? (i := 38) rfl))) (mvT hZ (hw _ (List.mem_of_getElem? (i := 37) rfl))) (by decide) (backOf (W := 0) (addN1 l Z a0 hw [] b1 b2_2 b15_2 b30_2 k2_2 k15_2 k30_2 i1 (0 : Int32) (0 : Int32) (0 : Int32) U1 M1 U2 M2 i2 (FP.i2d p2) x2 y2 T18.heap n0 Zs18 f20 f21 f22 f23 f19 f24 f25 f26 g_b1 g_b2_2 g_b15_2 g_b30_2 ne_b1_b2_2 ne_b1_b15_2 ne_b1_b30_2 r6 r7 r8 hix_72 hrl_72 hrv_72 hvl_72 hll_72 hls_72 hvs_72 nn41_72 hq41_72) hZ (hw _ (List.mem_of_getElem? (i := 39) rfl)) (hw _ (List.mem_of_getElem? (i := 2) rfl)) (by decide) (by decide)) q28a q28c (g := (mkF m 72 #[.val (.int p0), .val (.int p1), .val (.int p2), .val (.int p3), .val (.int p4), .val (.int (3 : Int32)), .val (.int i1), .val (.int i2), .val (.int i3), .val (.int i4), .val (.ref b1), .unset, .unset] [(.double (FP.i2d p2)), (.int i2), (.ref b1)])) rfl (by rw [hml]; rfl) (Steps.refl _) (argsL := [(.int i2), (.double (FP.i2d p2))]) (rest := []) (lenOf pd_4 rfl) rfl (by show 2 * 0 + _ ≤ _; exact Nat.le_of_eq rfl) (hb hby at_72) (fun _ _ => ⟨rfl, rfl, (by decide : 4 + 0 ≤ _), (by decide : 16 + 0 ≤ _)⟩)
  dsimp only [Pt.U, Pt.locs, Pt.cells, Pt.slots] at X28 l28 y28 z28 st28 hQ28
  subst l28 y28 z28
  obtain ⟨rfl, N28q, K28q, f29, f30, f31, f32, f33, f34, f35, f36⟩ := hQ28
  have N28 := Fr.app N18 N28q
  have f37 := f19.keep K28q
  have K28 : Keep h0 T28.heap [] := K18.trans K28q (own_allS (Or.inr sz_b15_2) (own_allS (Or.inr sz_b1) (own_allS (Or.inr sz_b30_2) (own_allS (Or.inr sz_b2_2) own_all0))))
  have Zs28 := Nat.le_trans Zs18 K28q.1
  obtain ⟨cq38, kq38, q38a, q38b, q38c⟩ := isOf hZ rfl f29
  obtain ⟨_, _, ⟨T38, L38, k38, n38⟩, -, X38, ⟨Lc38, hQ38, l38, y38, z38⟩, st38⟩ := X28.virtualBack hx (y := (⟨"com/example/leeway/leeway/lp/SparseColumn", "add", "(ID)V"⟩ : MethodName)) (z := (⟨"com/example/leeway/leeway/lp/SparseColumn", "add", "(ID)V"⟩ : MethodName)) hown (mvT hZ (hw _ (List.mem_of_getElem? (i := 35) rfl))) (mvT hZ (hw _ (List.mem_of_getElem? (i := 36) rfl))) (notFace_of_selects (args := #[]) (mvT hZ (hw _ (List.mem_of_getElem? (i := 38) rfl)))) (mvT hZ (hw _ (List.mem_of_getElem? (i := 38) rfl))) (mvT hZ (hw _ (List.mem_of_getElem? (i := 37) rfl))) (by decide) (backOf (W := 0) (addN2 l Z a0 hw [] b1 b2_2 b15_2 b30_2 k2_2 k15_2 k30_2 i1 i2 (0 : Int32) (0 : Int32) U2 M2 U3 M3 i3 (FP.i2d p3) x3 y3 T28.heap n0 Zs28 f30 f31 f32 f33 f29 f34 f35 f36 g_b1 g_b2_2 g_b15_2 g_b30_2 ne_b1_b2_2 ne_b1_b15_2 ne_b1_b30_2 r6 r7 r8 hix_87 hrl_87 hrv_87 hvl_87 hll_87 hls_87 hvs_87 nn41_87 hq41_87) hZ (hw _ (List.mem_of_getElem? (i := 39) rfl)) (hw _ (List.mem_of_getElem? (i := 2) rfl)) (by decide) (by decide)) q38a q38c (g := (mkF m 87 #[.val (.int p0), .val (.int p1), .val (.int p2), .val (.int p3), .val (.int p4), .val (.int (3 : Int32)), .val (.int i1), .val (.int i2), .val (.int i3), .val (.int i4), .val (.ref b1), .unset, .unset] [(.double (FP.i2d p3)), (.int i3), (.ref b1)])) rfl (by rw [hml]; rfl) (Steps.refl _) (argsL := [(.int i3), (.double (FP.i2d p3))]) (rest := []) (lenOf pd_4 rfl) rfl (by show 2 * 0 + _ ≤ _; exact Nat.le_of_eq rfl) (hb hby at_87) (fun _ _ => ⟨rfl, rfl, (by decide : 4 + 0 ≤ _), (by decide : 16 + 0 ≤ _)⟩)
  dsimp only [Pt.U, Pt.locs, Pt.cells, Pt.slots] at X38 l38 y38 z38 st38 hQ38
  subst l38 y38 z38
  obtain ⟨rfl, N38q, K38q, f39, f40, f41, f42, f43, f44, f45, f46⟩ := hQ38
  have N38 := Fr.app N28 N38q
  have f47 := f29.keep K38q
  have K38 : Keep h0 T38.heap [] := K28.trans K38q (own_allS (Or.inr sz_b15_2) (own_allS (Or.inr sz_b1) (own_allS (Or.inr sz_b30_2) (own_allS (Or.inr sz_b2_2) own_all0))))
  have Zs38 := Nat.le_trans Zs28 K38q.1
  obtain ⟨cq48, kq48, q48a, q48b, q48c⟩ := isOf hZ rfl f39
  obtain ⟨_, _, ⟨T48, L48, k48, n48⟩, -, X48, ⟨Lc48, hQ48, l48, y48, z48⟩, st48⟩ := X38.virtualBack hx (y := (⟨"com/example/leeway/leeway/lp/SparseColumn", "clear", "()V"⟩ : MethodName)) (z := (⟨"com/example/leeway/leeway/lp/SparseColumn", "clear", "()V"⟩ : MethodName)) hown (mvT hZ (hw _ (List.mem_of_getElem? (i := 18) rfl))) (mvT hZ (hw _ (List.mem_of_getElem? (i := 19) rfl))) (notFace_of_selects (args := #[]) (mvT hZ (hw _ (List.mem_of_getElem? (i := 21) rfl)))) (mvT hZ (hw _ (List.mem_of_getElem? (i := 21) rfl))) (mvT hZ (hw _ (List.mem_of_getElem? (i := 20) rfl))) (by decide) (backOf (W := 0) (clr3 l Z a0 hw [] b1 b2_2 b15_2 b30_2 k2_2 k15_2 k30_2 i1 i2 i3 (0 : Int32) U3 M3 ([(.double (0 : UInt64)), (.double (0 : UInt64)), (.double (0 : UInt64)), (.double (0 : UInt64))] : List Value) ([(.int (0 : Int32)), (.int (0 : Int32)), (.int (0 : Int32)), (.int (0 : Int32))] : List Value) T38.heap n0 Zs38 f40 f41 f42 f43 f39 f44 f45 f46 g_b1 g_b2_2 g_b15_2 g_b30_2 ne_b1_b2_2 ne_b1_b15_2 ne_b1_b30_2 r6 r7 r8 hx0_92 hv0_92 hl0_92 hx1_92 hv1_92 hl1_92 hx2_92 hv2_92 hl2_92 hvs_92 hls_92) hZ (hw _ (List.mem_of_getElem? (i := 22) rfl)) (hw _ (List.mem_of_getElem? (i := 2) rfl)) (by decide) (by decide)) q48a q48c (g := (mkF m 92 #[.val (.int p0), .val (.int p1), .val (.int p2), .val (.int p3), .val (.int p4), .val (.int (3 : Int32)), .val (.int i1), .val (.int i2), .val (.int i3), .val (.int i4), .val (.ref b1), .unset, .unset] [(.ref b1)])) rfl (by rw [hml]; rfl) (Steps.refl _) (argsL := []) (rest := []) (lenOf pd_1 rfl) rfl (by show 2 * 0 + _ ≤ _; exact Nat.le_of_eq rfl) (hb hby at_92) (fun _ _ => ⟨rfl, rfl, (by decide : 4 + 0 ≤ _), (by decide : 16 + 0 ≤ _)⟩)
  dsimp only [Pt.U, Pt.locs, Pt.cells, Pt.slots] at X48 l48 y48 z48 st48 hQ48
  subst l48 y48 z48
  obtain ⟨rfl, N48q, K48q, f49, f50, f51, f52, f53, f54, f55, f56⟩ := hQ48
  have N48 := Fr.app N38 N48q
  have f57 := f39.keep K48q
  have f58 := f46.keep K48q (own_niS (Ne.symm r7) (own_niS (Ne.symm r8) (own_niS (Ne.symm ne_b1_b30_2) own_ni0)))
  have K48 : Keep h0 T48.heap [] := K38.trans K48q (own_allS (Or.inr sz_b2_2) (own_allS (Or.inr sz_b15_2) (own_allS (Or.inr sz_b1) own_all0)))
  have Zs48 := Nat.le_trans Zs38 K48q.1
  obtain ⟨cq59, kq59, q59a, q59b, q59c⟩ := isOf hZ rfl f49
  obtain ⟨_, _, ⟨T59, L59, k59, n59⟩, -, X59, ⟨Lc59, hQ59, l59, y59, z59⟩, st59⟩ := X48.virtualBack hx (y := (⟨"com/example/leeway/leeway/lp/SparseColumn", "values", "()[D"⟩ : MethodName)) (z := (⟨"com/example/leeway/leeway/lp/SparseColumn", "values", "()[D"⟩ : MethodName)) hown (mvT hZ (hw _ (List.mem_of_getElem? (i := 25) rfl))) (mvT hZ (hw _ (List.mem_of_getElem? (i := 26) rfl))) (notFace_of_selects (args := #[]) (mvT hZ (hw _ (List.mem_of_getElem? (i := 28) rfl)))) (mvT hZ (hw _ (List.mem_of_getElem? (i := 28) rfl))) (mvT hZ (hw _ (List.mem_of_getElem? (i := 27) rfl))) (by decide) (backOf (W := 0) (gv l Z a0 hw [] b1 b2_2 b15_2 b30_2 k2_2 k15_2 k30_2 i1 i2 i3 (0 : Int32) ([(.double (0 : UInt64)), (.double (0 : UInt64)), (.double (0 : UInt64)), (.double (0 : UInt64))] : List Value) ([(.int (0 : Int32)), (.int (0 : Int32)), (.int (0 : Int32)), (.int (0 : Int32))] : List Value) (0 : Int32) T48.heap n0 Zs48 f50 f51 f52 f53 f49 f54 f55 f56) hZ (hw _ (List.mem_of_getElem? (i := 29) rfl)) (hw _ (List.mem_of_getElem? (i := 2) rfl)) (by decide) (by decide)) q59a q59c (g := (mkF m 97 #[.val (.int p0), .val (.int p1), .val (.int p2), .val (.int p3), .val (.int p4), .val (.int (3 : Int32)), .val (.int i1), .val (.int i2), .val (.int i3), .val (.int i4), .val (.ref b1), .unset, .unset] [(.ref b1)])) rfl (by rw [hml]; rfl) (Steps.refl _) (argsL := []) (rest := []) (lenOf pd_2 rfl) rfl (by show 2 * 0 + _ ≤ _; exact Nat.le_of_eq rfl) (hb hby at_97) (fun _ _ => ⟨rfl, rfl, (by decide : 4 + 0 ≤ _), (by decide : 16 + 0 ≤ _)⟩)
  dsimp only [Pt.U, Pt.locs, Pt.cells, Pt.slots] at X59 l59 y59 z59 st59 hQ59
  subst l59 y59 z59
  obtain ⟨rfl, N59q, eh59⟩ := hQ59
  have N59 := Fr.app N48 N59q
  have e59 : T59.heap = T48.heap := eh59
  obtain ⟨cq60, kq60, q60a, q60b, q60c⟩ := isOf hZ e59 f49
  obtain ⟨_, _, ⟨T60, L60, k60, n60⟩, -, X60, ⟨Lc60, hQ60, l60, y60, z60⟩, st60⟩ := X59.virtualBack hx (y := (⟨"com/example/leeway/leeway/lp/SparseColumn", "count", "()I"⟩ : MethodName)) (z := (⟨"com/example/leeway/leeway/lp/SparseColumn", "count", "()I"⟩ : MethodName)) hown (mvT hZ (hw _ (List.mem_of_getElem? (i := 30) rfl))) (mvT hZ (hw _ (List.mem_of_getElem? (i := 31) rfl))) (notFace_of_selects (args := #[]) (mvT hZ (hw _ (List.mem_of_getElem? (i := 33) rfl)))) (mvT hZ (hw _ (List.mem_of_getElem? (i := 33) rfl))) (mvT hZ (hw _ (List.mem_of_getElem? (i := 32) rfl))) (by decide) (backOf (W := 0) (gc l Z a0 hw [] b1 b2_2 b15_2 b30_2 k2_2 k15_2 k30_2 i1 i2 i3 (0 : Int32) ([(.double (0 : UInt64)), (.double (0 : UInt64)), (.double (0 : UInt64)), (.double (0 : UInt64))] : List Value) ([(.int (0 : Int32)), (.int (0 : Int32)), (.int (0 : Int32)), (.int (0 : Int32))] : List Value) (0 : Int32) T48.heap n0 Zs48 f50 f51 f52 f53 f49 f54 f55 f56) hZ (hw _ (List.mem_of_getElem? (i := 34) rfl)) (hw _ (List.mem_of_getElem? (i := 2) rfl)) (by decide) (by decide)) q60a q60c (g := (mkF m 104 #[.val (.int p0), .val (.int p1), .val (.int p2), .val (.int p3), .val (.int p4), .val (.int (3 : Int32)), .val (.int i1), .val (.int i2), .val (.int i3), .val (.int i4), .val (.ref b1), .val (.ref b2_2), .unset] [(.ref b1)])) rfl (by rw [hml]; rfl) (Steps.refl _) (argsL := []) (rest := []) (lenOf pd_3 rfl) rfl (by show 2 * 0 + _ ≤ _; exact Nat.le_of_eq rfl) (hb hby at_104) (fun _ _ => ⟨rfl, e59, (by decide : 4 + 0 ≤ _), (by decide : 16 + 0 ≤ _)⟩)
  dsimp only [Pt.U, Pt.locs, Pt.cells, Pt.slots] at X60 l60 y60 z60 st60 hQ60
  subst l60 y60 z60
  obtain ⟨rfl, N60q, eh60⟩ := hQ60
  have N60 := Fr.app N59 N60q
  have e60 : T60.heap = T48.heap := eh60
  obtain ⟨cq61, Arq61, -, Sq61, -, Hq61, -⟩ := id f54
  obtain ⟨cq62, Arq62, -, Sq62, -, Hq62, -⟩ := id f54
  obtain ⟨cq63, Arq63, -, Sq63, -, Hq63, -⟩ := id f54
  obtain ⟨cq64, Arq64, -, Sq64, -, Hq64, -⟩ := id f54
  obtain ⟨cq65, kq65, q65a, q65b, q65c⟩ := isOf hZ e60 f49
  obtain ⟨_, _, ⟨T65, L65, k65, n65⟩, -, X65, ⟨Lc65, hQ65, l65, y65, z65⟩, st65⟩ := X60.virtualBack hx (y := (⟨"com/example/leeway/leeway/lp/SparseColumn", "add", "(ID)V"⟩ : MethodName)) (z := (⟨"com/example/leeway/leeway/lp/SparseColumn", "add", "(ID)V"⟩ : MethodName)) hown (mvT hZ (hw _ (List.mem_of_getElem? (i := 35) rfl))) (mvT hZ (hw _ (List.mem_of_getElem? (i := 36) rfl))) (notFace_of_selects (args := #[]) (mvT hZ (hw _ (List.mem_of_getElem? (i := 38) rfl)))) (mvT hZ (hw _ (List.mem_of_getElem? (i := 38) rfl))) (mvT hZ (hw _ (List.mem_of_getElem? (i := 37) rfl))) (by decide) (backOf (W := 0) (addN0 l Z a0 hw [] b1 b2_2 b15_2 b30_2 k2_2 k15_2 k30_2 i1 i2 i3 (0 : Int32) ([(.double (0 : UInt64)), (.double (0 : UInt64)), (.double (0 : UInt64)), (.double (0 : UInt64))] : List Value) ([(.int (0 : Int32)), (.int (0 : Int32)), (.int (0 : Int32)), (.int (0 : Int32))] : List Value) U9 M9 i4 (FP.i2d p4) (0 : UInt64) y9 T48.heap n0 Zs48 f50 f51 f52 f53 f49 f54 f55 f56 g_b1 g_b2_2 g_b15_2 g_b30_2 ne_b1_b2_2 ne_b1_b15_2 ne_b1_b30_2 r6 r7 r8 hix_160 hrl_160 hrv_160 hvl_160 hll_160 hls_160 hvs_160 nn41_160 hq41_160) hZ (hw _ (List.mem_of_getElem? (i := 39) rfl)) (hw _ (List.mem_of_getElem? (i := 2) rfl)) (by decide) (by decide)) q65a q65c (g := (mkF m 160 #[.val (.int p0), .val (.int p1), .val (.int p2), .val (.int p3), .val (.int p4), .val (.int (3 : Int32)), .val (.int i1), .val (.int i2), .val (.int i3), .val (.int i4), .val (.ref b1), .val (.ref b2_2), .val (.int (1 : Int32))] [(.double (FP.i2d p4)), (.int i4), (.ref b1)])) rfl (by rw [hml]; rfl) (Steps.refl _) (argsL := [(.int i4), (.double (FP.i2d p4))]) (rest := []) (lenOf pd_4 rfl) rfl (by show 2 * 0 + _ ≤ _; exact Nat.le_of_eq rfl) (hb hby at_160) (fun _ _ => ⟨rfl, e60, (by decide : 4 + 0 ≤ _), (by decide : 16 + 0 ≤ _)⟩)
  dsimp only [Pt.U, Pt.locs, Pt.cells, Pt.slots] at X65 l65 y65 z65 st65 hQ65
  subst l65 y65 z65
  obtain ⟨rfl, N65q, K65q, f66, f67, f68, f69, f70, f71, f72, f73⟩ := hQ65
  have N65 := Fr.app N60 N65q
  have f74 := f49.keep K65q
  have K65 : Keep h0 T65.heap [] := K48.trans K65q (own_allS (Or.inr sz_b15_2) (own_allS (Or.inr sz_b1) (own_allS (Or.inr sz_b30_2) (own_allS (Or.inr sz_b2_2) own_all0))))
  have Zs65 := Nat.le_trans Zs48 K65q.1
  obtain ⟨cq75, kq75, q75a, q75b, q75c⟩ := isOf hZ rfl f66
  obtain ⟨_, _, ⟨T75, L75, k75, n75⟩, -, X75, ⟨Lc75, hQ75, l75, y75, z75⟩, st75⟩ := X65.virtualBack hx (y := (⟨"com/example/leeway/leeway/lp/SparseColumn", "values", "()[D"⟩ : MethodName)) (z := (⟨"com/example/leeway/leeway/lp/SparseColumn", "values", "()[D"⟩ : MethodName)) hown (mvT hZ (hw _ (List.mem_of_getElem? (i := 25) rfl))) (mvT hZ (hw _ (List.mem_of_getElem? (i := 26) rfl))) (notFace_of_selects (args := #[]) (mvT hZ (hw _ (List.mem_of_getElem? (i := 28) rfl)))) (mvT hZ (hw _ (List.mem_of_getElem? (i := 28) rfl))) (mvT hZ (hw _ (List.mem_of_getElem? (i := 27) rfl))) (by decide) (backOf (W := 0) (gv l Z a0 hw [] b1 b2_2 b15_2 b30_2 k2_2 k15_2 k30_2 i4 i2 i3 (0 : Int32) U9 M9 (1 : Int32) T65.heap n0 Zs65 f67 f68 f69 f70 f66 f71 f72 f73) hZ (hw _ (List.mem_of_getElem? (i := 29) rfl)) (hw _ (List.mem_of_getElem? (i := 2) rfl)) (by decide) (by decide)) q75a q75c (g := (mkF m 165 #[.val (.int p0), .val (.int p1), .val (.int p2), .val (.int p3), .val (.int p4), .val (.int (3 : Int32)), .val (.int i1), .val (.int i2), .val (.int i3), .val (.int i4), .val (.ref b1), .val (.ref b2_2), .val (.int (1 : Int32))] [(.ref b1)])) rfl (by rw [hml]; rfl) (Steps.refl _) (argsL := []) (rest := []) (lenOf pd_2 rfl) rfl (by show 2 * 0 + _ ≤ _; exact Nat.le_of_eq rfl) (hb hby at_165) (fun _ _ => ⟨rfl, rfl, (by decide : 4 + 0 ≤ _), (by decide : 16 + 0 ≤ _)⟩)
  dsimp only [Pt.U, Pt.locs, Pt.cells, Pt.slots] at X75 l75 y75 z75 st75 hQ75
  subst l75 y75 z75
  obtain ⟨rfl, N75q, eh75⟩ := hQ75
  have N75 := Fr.app N65 N75q
  have e75 : T75.heap = T65.heap := eh75
  obtain ⟨cq76, kq76, q76a, q76b, q76c⟩ := isOf hZ e75 f66
  obtain ⟨_, _, ⟨T76, L76, k76, n76⟩, -, X76, ⟨Lc76, hQ76, l76, y76, z76⟩, st76⟩ := X75.virtualBack hx (y := (⟨"com/example/leeway/leeway/lp/SparseColumn", "count", "()I"⟩ : MethodName)) (z := (⟨"com/example/leeway/leeway/lp/SparseColumn", "count", "()I"⟩ : MethodName)) hown (mvT hZ (hw _ (List.mem_of_getElem? (i := 30) rfl))) (mvT hZ (hw _ (List.mem_of_getElem? (i := 31) rfl))) (notFace_of_selects (args := #[]) (mvT hZ (hw _ (List.mem_of_getElem? (i := 33) rfl)))) (mvT hZ (hw _ (List.mem_of_getElem? (i := 33) rfl))) (mvT hZ (hw _ (List.mem_of_getElem? (i := 32) rfl))) (by decide) (backOf (W := 0) (gc l Z a0 hw [] b1 b2_2 b15_2 b30_2 k2_2 k15_2 k30_2 i4 i2 i3 (0 : Int32) U9 M9 (1 : Int32) T65.heap n0 Zs65 f67 f68 f69 f70 f66 f71 f72 f73) hZ (hw _ (List.mem_of_getElem? (i := 34) rfl)) (hw _ (List.mem_of_getElem? (i := 2) rfl)) (by decide) (by decide)) q76a q76c (g := (mkF m 177 #[.val (.int p0), .val (.int p1), .val (.int p2), .val (.int p3), .val (.int p4), .val (.int (3 : Int32)), .val (.int i1), .val (.int i2), .val (.int i3), .val (.int i4), .val (.ref b1), .val (.ref b2_2), .val (.int (1 : Int32))] [(.ref b1)])) rfl (by rw [hml]; rfl) (Steps.refl _) (argsL := []) (rest := []) (lenOf pd_3 rfl) rfl (by show 2 * 0 + _ ≤ _; exact Nat.le_of_eq rfl) (hb hby at_177) (fun _ _ => ⟨rfl, e75, (by decide : 4 + 0 ≤ _), (by decide : 16 + 0 ≤ _)⟩)
  dsimp only [Pt.U, Pt.locs, Pt.cells, Pt.slots] at X76 l76 y76 z76 st76 hQ76
  subst l76 y76 z76
  obtain ⟨rfl, N76q, eh76⟩ := hQ76
  have N76 := Fr.app N75 N76q
  have e76 : T76.heap = T65.heap := eh76
  obtain ⟨cq77, kq77, q77a, q77b, q77c⟩ := isOf hZ e76 f66
  obtain ⟨_, _, ⟨T77, L77, k77, n77⟩, -, X77, ⟨Lc77, hQ77, l77, y77, z77⟩, st77⟩ := X76.virtualBack hx (y := (⟨"com/example/leeway/leeway/lp/SparseColumn", "rows", "()[I"⟩ : MethodName)) (z := (⟨"com/example/leeway/leeway/lp/SparseColumn", "rows", "()[I"⟩ : MethodName)) hown (mvT hZ (hw _ (List.mem_of_getElem? (i := 40) rfl))) (mvT hZ (hw _ (List.mem_of_getElem? (i := 41) rfl))) (notFace_of_selects (args := #[]) (mvT hZ (hw _ (List.mem_of_getElem? (i := 43) rfl)))) (mvT hZ (hw _ (List.mem_of_getElem? (i := 43) rfl))) (mvT hZ (hw _ (List.mem_of_getElem? (i := 42) rfl))) (by decide) (backOf (W := 0) (gr l Z a0 hw [] b1 b2_2 b15_2 b30_2 k2_2 k15_2 k30_2 i4 i2 i3 (0 : Int32) U9 M9 (1 : Int32) T65.heap n0 Zs65 f67 f68 f69 f70 f66 f71 f72 f73) hZ (hw _ (List.mem_of_getElem? (i := 44) rfl)) (hw _ (List.mem_of_getElem? (i := 2) rfl)) (by decide) (by decide)) q77a q77c (g := (mkF m 186 #[.val (.int p0), .val (.int p1), .val (.int p2), .val (.int p3), .val (.int p4), .val (.int (3 : Int32)), .val (.int i1), .val (.int i2), .val (.int i3), .val (.int i4), .val (.ref b1), .val (.ref b2_2), .val (.int (1 : Int32))] [(.ref b1)])) rfl (by rw [hml]; rfl) (Steps.refl _) (argsL := []) (rest := []) (lenOf pd_5 rfl) rfl (by show 2 * 0 + _ ≤ _; exact Nat.le_of_eq rfl) (hb hby at_186) (fun _ _ => ⟨rfl, e76, (by decide : 4 + 0 ≤ _), (by decide : 16 + 0 ≤ _)⟩)
  dsimp only [Pt.U, Pt.locs, Pt.cells, Pt.slots] at X77 l77 y77 z77 st77 hQ77
  subst l77 y77 z77
  obtain ⟨rfl, N77q, eh77⟩ := hQ77
  have N77 := Fr.app N76 N77q
  have e77 : T77.heap = T65.heap := eh77
  obtain ⟨cq78, Arq78, -, Sq78, -, Hq78, -⟩ := id f73
  obtain ⟨cq79, Arq79, -, Sq79, -, Hq79, -⟩ := id f71
  obtain ⟨_, _, ⟨T80, L80, k80, n80⟩, -, X80, ⟨Lc80, hQ80, l80, y80, z80⟩, st80⟩ := Jvm.LawKit.callS X77 hx (y := (⟨"com/example/leeway/leeway/lp/SparseColumnClearPinLaw", "zeroUnless", "([DII)Z"⟩ : MethodName)) hown (mvT hZ (hw _ (List.mem_of_getElem? (i := 45) rfl))) (mvT hZ (hw _ (List.mem_of_getElem? (i := 46) rfl))) (mvT hZ (hw _ (List.mem_of_getElem? (i := 47) rfl))) (mvT hZ (hw _ (List.mem_of_getElem? (i := 48) rfl))) (by decide) (backOf (W := 0) (zu l Z a0 hw [] b2_2 k2_2 U9 (0 : Int32) i4 T65.heap n0 Zs65 f71 hix_225 hrd_225 hd9_225) hZ (hw _ (List.mem_of_getElem? (i := 48) rfl)) (hw _ (List.mem_of_getElem? (i := 47) rfl)) (by decide) (by decide)) (g := (mkF m 225 #[.val (.int p0), .val (.int p1), .val (.int p2), .val (.int p3), .val (.int p4), .val (.int (3 : Int32)), .val (.int i1), .val (.int i2), .val (.int i3), .val (.int i4), .val (.ref b1), .val (.ref b2_2), .val (.int (1 : Int32))] [(.int i4), (.int (0 : Int32)), (.ref b2_2)])) rfl (by rw [hml]; rfl) (argsL := [(.ref b2_2), (.int (0 : Int32)), (.int i4)]) (rest := []) (lenOf pd_6 rfl) rfl (by show 2 * 0 + _ ≤ _; exact Nat.le_of_eq rfl) (hb hby at_225) (fun _ _ => ⟨rfl, e77, (by decide : 4 + 0 ≤ _), (by decide : 16 + 0 ≤ _)⟩)
  dsimp only [Pt.U, Pt.locs, Pt.cells, Pt.slots] at X80 l80 y80 z80 st80 hQ80
  subst l80 y80 z80
  obtain ⟨rfl, N80q, eh80⟩ := hQ80
  have N80 := Fr.app N77 N80q
  have e80 : T80.heap = T65.heap := eh80
  obtain ⟨_, _, ⟨T81, L81, k81, n81⟩, -, X81, ⟨Lc81, hQ81, l81, y81, z81⟩, st81⟩ := Jvm.LawKit.callS X80 hx (y := (⟨"com/example/leeway/leeway/lp/SparseColumnClearPinLaw", "zeroUnless", "([DII)Z"⟩ : MethodName)) hown (mvT hZ (hw _ (List.mem_of_getElem? (i := 45) rfl))) (mvT hZ (hw _ (List.mem_of_getElem? (i := 46) rfl))) (mvT hZ (hw _ (List.mem_of_getElem? (i := 47) rfl))) (mvT hZ (hw _ (List.mem_of_getElem? (i := 48) rfl))) (by decide) (backOf (W := 0) (zu l Z a0 hw [] b2_2 k2_2 U9 (1 : Int32) i4 T65.heap n0 Zs65 f71 hix_236 hrd_236 hd9_236) hZ (hw _ (List.mem_of_getElem? (i := 48) rfl)) (hw _ (List.mem_of_getElem? (i := 47) rfl)) (by decide) (by decide)) (g := (mkF m 236 #[.val (.int p0), .val (.int p1), .val (.int p2), .val (.int p3), .val (.int p4), .val (.int (3 : Int32)), .val (.int i1), .val (.int i2), .val (.int i3), .val (.int i4), .val (.ref b1), .val (.ref b2_2), .val (.int (1 : Int32))] [(.int i4), (.int (1 : Int32)), (.ref b2_2)])) rfl (by rw [hml]; rfl) (argsL := [(.ref b2_2), (.int (1 : Int32)), (.int i4)]) (rest := []) (lenOf pd_6 rfl) rfl (by show 2 * 0 + _ ≤ _; exact Nat.le_of_eq rfl) (hb hby at_236) (fun _ _ => ⟨rfl, e80, (by decide : 4 + 0 ≤ _), (by decide : 16 + 0 ≤ _)⟩)
  dsimp only [Pt.U, Pt.locs, Pt.cells, Pt.slots] at X81 l81 y81 z81 st81 hQ81
  subst l81 y81 z81
  obtain ⟨rfl, N81q, eh81⟩ := hQ81
  have N81 := Fr.app N80 N81q
  have e81 : T81.heap = T65.heap := eh81
  obtain ⟨_, _, ⟨T82, L82, k82, n82⟩, -, X82, ⟨Lc82, hQ82, l82, y82, z82⟩, st82⟩ := Jvm.LawKit.callS X81 hx (y := (⟨"com/example/leeway/leeway/lp/SparseColumnClearPinLaw", "zeroUnless", "([DII)Z"⟩ : MethodName)) hown (mvT hZ (hw _ (List.mem_of_getElem? (i := 45) rfl))) (mvT hZ (hw _ (List.mem_of_getElem? (i := 46) rfl))) (mvT hZ (hw _ (List.mem_of_getElem? (i := 47) rfl))) (mvT hZ (hw _ (List.mem_of_getElem? (i := 48) rfl))) (by decide) (backOf (W := 0) (zu l Z a0 hw [] b2_2 k2_2 U9 (2 : Int32) i4 T65.heap n0 Zs65 f71 hix_247 hrd_247 hd9_247) hZ (hw _ (List.mem_of_getElem? (i := 48) rfl)) (hw _ (List.mem_of_getElem? (i := 47) rfl)) (by decide) (by decide)) (g := (mkF m 247 #[.val (.int p0), .val (.int p1), .val (.int p2), .val (.int p3), .val (.int p4), .val (.int (3 : Int32)), .val (.int i1), .val (.int i2), .val (.int i3), .val (.int i4), .val (.ref b1), .val (.ref b2_2), .val (.int (1 : Int32))] [(.int i4), (.int (2 : Int32)), (.ref b2_2)])) rfl (by rw [hml]; rfl) (argsL := [(.ref b2_2), (.int (2 : Int32)), (.int i4)]) (rest := []) (lenOf pd_6 rfl) rfl (by show 2 * 0 + _ ≤ _; exact Nat.le_of_eq rfl) (hb hby at_247) (fun _ _ => ⟨rfl, e81, (by decide : 4 + 0 ≤ _), (by decide : 16 + 0 ≤ _)⟩)
  dsimp only [Pt.U, Pt.locs, Pt.cells, Pt.slots] at X82 l82 y82 z82 st82 hQ82
  subst l82 y82 z82
  obtain ⟨rfl, N82q, eh82⟩ := hQ82
  have N82 := Fr.app N81 N82q
  have e82 : T82.heap = T65.heap := eh82
  obtain ⟨_, _, ⟨T83, L83, k83, n83⟩, -, X83, ⟨Lc83, hQ83, l83, y83, z83⟩, st83⟩ := Jvm.LawKit.callS X82 hx (y := (⟨"com/example/leeway/leeway/lp/SparseColumnClearPinLaw", "zeroUnless", "([DII)Z"⟩ : MethodName)) hown (mvT hZ (hw _ (List.mem_of_getElem? (i := 45) rfl))) (mvT hZ (hw _ (List.mem_of_getElem? (i := 46) rfl))) (mvT hZ (hw _ (List.mem_of_getElem? (i := 47) rfl))) (mvT hZ (hw _ (List.mem_of_getElem? (i := 48) rfl))) (by decide) (backOf (W := 0) (zu l Z a0 hw [] b2_2 k2_2 U9 (3 : Int32) i4 T65.heap n0 Zs65 f71 hix_258 hrd_258 hd9_258) hZ (hw _ (List.mem_of_getElem? (i := 48) rfl)) (hw _ (List.mem_of_getElem? (i := 47) rfl)) (by decide) (by decide)) (g := (mkF m 258 #[.val (.int p0), .val (.int p1), .val (.int p2), .val (.int p3), .val (.int p4), .val (.int (3 : Int32)), .val (.int i1), .val (.int i2), .val (.int i3), .val (.int i4), .val (.ref b1), .val (.ref b2_2), .val (.int (1 : Int32))] [(.int i4), (.int (3 : Int32)), (.ref b2_2)])) rfl (by rw [hml]; rfl) (argsL := [(.ref b2_2), (.int (3 : Int32)), (.int i4)]) (rest := []) (lenOf pd_6 rfl) rfl (by show 2 * 0 + _ ≤ _; exact Nat.le_of_eq rfl) (hb hby at_258) (fun _ _ => ⟨rfl, e82, (by decide : 4 + 0 ≤ _), (by decide : 16 + 0 ≤ _)⟩)
  dsimp only [Pt.U, Pt.locs, Pt.cells, Pt.slots] at X83 l83 y83 z83 st83 hQ83
  subst l83 y83 z83
  obtain ⟨rfl, N83q, eh83⟩ := hQ83
  have N83 := Fr.app N82 N83q
  have e83 : T83.heap = T65.heap := eh83
  obtain ⟨fs, hr, hrun, hended, hW, hsame⟩ := X83.leave (v := some (.int (1 : Int32))) (fun h => by rw [Bd.returns] at h; cases h)
  refine ⟨_, _, pre0 _ ?_, hrun, hended, _, _, rfl, ?_, ⟨_, rfl⟩, hW, hsame.mono (by decide) (by decide)⟩
  · show Steps p.tables e below (s₁.setTop (mkF m 0 #[.val (.int p0), .val (.int p1), .val (.int p2), .val (.int p3), .val (.int p4), .unset, .unset, .unset, .unset, .unset, .unset, .unset, .unset] [])) _
    refine XS.iloadN X0.here hx rfl (hb hby at_0) rfl ?_
    refine XS.iconst X0.here hx rfl (hb hby at_1) ?_
    refine XS.iand X0.here hx rfl (hb hby at_2) rfl ?_
    show Steps p.tables e below (s₁.setTop (mkF m 3 #[.val (.int p0), .val (.int p1), .val (.int p2), .val (.int p3), .val (.int p4), .unset, .unset, .unset, .unset, .unset, .unset, .unset, .unset] [(.int (p0 &&& (3 : Int32)))])) _
    rw [hv2]
    show Steps p.tables e below (s₁.setTop (mkF m 3 #[.val (.int p0), .val (.int p1), .val (.int p2), .val (.int p3), .val (.int p4), .unset, .unset, .unset, .unset, .unset, .unset, .unset, .unset] [(.int (3 : Int32))])) _
    refine XS.istore X0.here hx rfl (hb hby at_3) rfl (l' := #[.val (.int p0), .val (.int p1), .val (.int p2), .val (.int p3), .val (.int p4), .val (.int (3 : Int32)), .unset, .unset, .unset, .unset, .unset, .unset, .unset]) rfl ?_
    show Steps p.tables e below (s₁.setTop (mkF m 5 #[.val (.int p0), .val (.int p1), .val (.int p2), .val (.int p3), .val (.int p4), .val (.int (3 : Int32)), .unset, .unset, .unset, .unset, .unset, .unset, .unset] [])) _
    refine XS.iloadN X0.here hx rfl (hb hby at_5) rfl ?_
    refine XS.iconst X0.here hx rfl (hb hby at_6) ?_
    refine XS.iushr X0.here hx rfl (hb hby at_7) rfl ?_
    refine XS.iconst X0.here hx rfl (hb hby at_8) ?_
    refine XS.iand X0.here hx rfl (hb hby at_9) rfl ?_
    show Steps p.tables e below (s₁.setTop (mkF m 10 #[.val (.int p0), .val (.int p1), .val (.int p2), .val (.int p3), .val (.int p4), .val (.int (3 : Int32)), .unset, .unset, .unset, .unset, .unset, .unset, .unset] [(.int (((p0.toUInt32 >>> ((2 : Int32) &&& 31).toUInt32).toInt32) &&& (3 : Int32)))])) _
    rw [hv9]
    show Steps p.tables e below (s₁.setTop (mkF m 10 #[.val (.int p0), .val (.int p1), .val (.int p2), .val (.int p3), .val (.int p4), .val (.int (3 : Int32)), .unset, .unset, .unset, .unset, .unset, .unset, .unset] [(.int i1)])) _
    refine XS.istore X0.here hx rfl (hb hby at_10) rfl (l' := #[.val (.int p0), .val (.int p1), .val (.int p2), .val (.int p3), .val (.int p4), .val (.int (3 : Int32)), .val (.int i1), .unset, .unset, .unset, .unset, .unset, .unset]) rfl ?_
    refine XS.iloadN X0.here hx rfl (hb hby at_12) rfl ?_
    refine XS.iconst X0.here hx rfl (hb hby at_13) ?_
    refine XS.iushr X0.here hx rfl (hb hby at_14) rfl ?_
    refine XS.iconst X0.here hx rfl (hb hby at_15) ?_
    refine XS.iand X0.here hx rfl (hb hby at_16) rfl ?_
    show Steps p.tables e below (s₁.setTop (mkF m 17 #[.val (.int p0), .val (.int p1), .val (.int p2), .val (.int p3), .val (.int p4), .val (.int (3 : Int32)), .val (.int i1), .unset, .unset, .unset, .unset, .unset, .unset] [(.int (((p0.toUInt32 >>> ((4 : Int32) &&& 31).toUInt32).toInt32) &&& (3 : Int32)))])) _
    rw [hv16]
    show Steps p.tables e below (s₁.setTop (mkF m 17 #[.val (.int p0), .val (.int p1), .val (.int p2), .val (.int p3), .val (.int p4), .val (.int (3 : Int32)), .val (.int i1), .unset, .unset, .unset, .unset, .unset, .unset] [(.int i2)])) _
    refine XS.istore X0.here hx rfl (hb hby at_17) rfl (l' := #[.val (.int p0), .val (.int p1), .val (.int p2), .val (.int p3), .val (.int p4), .val (.int (3 : Int32)), .val (.int i1), .val (.int i2), .unset, .unset, .unset, .unset, .unset]) rfl ?_
    refine XS.iloadN X0.here hx rfl (hb hby at_19) rfl ?_
    refine XS.bipush X0.here hx rfl (hb hby at_20) ?_
    refine XS.iushr X0.here hx rfl (hb hby at_22) rfl ?_
    refine XS.iconst X0.here hx rfl (hb hby at_23) ?_
    show Steps p.tables e below (s₁.setTop (mkF m 24 #[.val (.int p0), .val (.int p1), .val (.int p2), .val (.int p3), .val (.int p4), .val (.int (3 : Int32)), .val (.int i1), .val (.int i2), .unset, .unset, .unset, .unset, .unset] [(.int (3 : Int32)), (.int ((p0.toUInt32 >>> ((6 : Int32) &&& 31).toUInt32).toInt32))])) _
    refine XS.iand X0.here hx rfl (hb hby at_24) rfl ?_
    show Steps p.tables e below (s₁.setTop (mkF m 25 #[.val (.int p0), .val (.int p1), .val (.int p2), .val (.int p3), .val (.int p4), .val (.int (3 : Int32)), .val (.int i1), .val (.int i2), .unset, .unset, .unset, .unset, .unset] [(.int (((p0.toUInt32 >>> ((6 : Int32) &&& 31).toUInt32).toInt32) &&& (3 : Int32)))])) _
    rw [hv24]
    show Steps p.tables e below (s₁.setTop (mkF m 25 #[.val (.int p0), .val (.int p1), .val (.int p2), .val (.int p3), .val (.int p4), .val (.int (3 : Int32)), .val (.int i1), .val (.int i2), .unset, .unset, .unset, .unset, .unset] [(.int i3)])) _
    refine XS.istore X0.here hx rfl (hb hby at_25) rfl (l' := #[.val (.int p0), .val (.int p1), .val (.int p2), .val (.int p3), .val (.int p4), .val (.int (3 : Int32)), .val (.int i1), .val (.int i2), .val (.int i3), .unset, .unset, .unset, .unset]) rfl ?_
    refine XS.iloadN X0.here hx rfl (hb hby at_27) rfl ?_
    refine XS.bipush X0.here hx rfl (hb hby at_28) ?_
    refine XS.iushr X0.here hx rfl (hb hby at_30) rfl ?_
    show Steps p.tables e below (s₁.setTop (mkF m 31 #[.val (.int p0), .val (.int p1), .val (.int p2), .val (.int p3), .val (.int p4), .val (.int (3 : Int32)), .val (.int i1), .val (.int i2), .val (.int i3), .unset, .unset, .unset, .unset] [(.int ((p0.toUInt32 >>> ((8 : Int32) &&& 31).toUInt32).toInt32))])) _
    refine XS.iconst X0.here hx rfl (hb hby at_31) ?_
    refine XS.iand X0.here hx rfl (hb hby at_32) rfl ?_
    show Steps p.tables e below (s₁.setTop (mkF m 33 #[.val (.int p0), .val (.int p1), .val (.int p2), .val (.int p3), .val (.int p4), .val (.int (3 : Int32)), .val (.int i1), .val (.int i2), .val (.int i3), .unset, .unset, .unset, .unset] [(.int (((p0.toUInt32 >>> ((8 : Int32) &&& 31).toUInt32).toInt32) &&& (3 : Int32)))])) _
    rw [hv32]
    show Steps p.tables e below (s₁.setTop (mkF m 33 #[.val (.int p0), .val (.int p1), .val (.int p2), .val (.int p3), .val (.int p4), .val (.int (3 : Int32)), .val (.int i1), .val (.int i2), .val (.int i3), .unset, .unset, .unset, .unset] [(.int i4)])) _
    refine XS.istore X0.here hx rfl (hb hby at_33) rfl (l' := #[.val (.int p0), .val (.int p1), .val (.int p2), .val (.int p3), .val (.int p4), .val (.int (3 : Int32)), .val (.int i1), .val (.int i2), .val (.int i3), .val (.int i4), .unset, .unset, .unset]) rfl ?_
    refine st1 _ ?_
    show Steps p.tables e below (T1.setTop (mkF m 38 #[.val (.int p0), .val (.int p1), .val (.int p2), .val (.int p3), .val (.int p4), .val (.int (3 : Int32)), .val (.int i1), .val (.int i2), .val (.int i3), .val (.int i4), .unset, .unset, .unset] [(.ref b1)])) _
    refine XS.dup X1.here hx rfl (hb hby at_38) rfl rfl ?_
    show Steps p.tables e below (T1.setTop (mkF m 39 #[.val (.int p0), .val (.int p1), .val (.int p2), .val (.int p3), .val (.int p4), .val (.int (3 : Int32)), .val (.int i1), .val (.int i2), .val (.int i3), .val (.int i4), .unset, .unset, .unset] [(.ref b1), (.ref b1)])) _
    refine XS.iconst X1.here hx rfl (hb hby at_39) ?_
    refine st2.trans ?_
    show Steps p.tables e below (T2.setTop (mkF m 43 #[.val (.int p0), .val (.int p1), .val (.int p2), .val (.int p3), .val (.int p4), .val (.int (3 : Int32)), .val (.int i1), .val (.int i2), .val (.int i3), .val (.int i4), .unset, .unset, .unset] [(.ref b1)])) _
    refine XS.astore X2.here hx rfl (hb hby at_43) rfl rfl (l' := #[.val (.int p0), .val (.int p1), .val (.int p2), .val (.int p3), .val (.int p4), .val (.int (3 : Int32)), .val (.int i1), .val (.int i2), .val (.int i3), .val (.int i4), .val (.ref b1), .unset, .unset]) rfl ?_
    refine XS.iload X2.here hx rfl (hb hby at_45) rfl ?_
    refine XS.iconst X2.here hx rfl (hb hby at_47) ?_
    refine XS.icmpNo X2.here hx rfl (hb hby at_48) rfl (flt (by decide : ¬ ((3 : Int32) < (1 : Int32)))).1 ?_
    show Steps p.tables e below (T2.setTop (mkF m 51 #[.val (.int p0), .val (.int p1), .val (.int p2), .val (.int p3), .val (.int p4), .val (.int (3 : Int32)), .val (.int i1), .val (.int i2), .val (.int i3), .val (.int i4), .val (.ref b1), .unset, .unset] [])) _
    refine XS.aload X2.here hx rfl (hb hby at_51) rfl rfl ?_
    refine XS.iload X2.here hx rfl (hb hby at_53) rfl ?_
    refine XS.iloadN X2.here hx rfl (hb hby at_55) rfl ?_
    refine XS.i2dS X2.here hx rfl (hb hby at_56) rfl (v := (FP.i2d p1)) rfl ?_
    refine st18.trans ?_
    show Steps p.tables e below (T18.setTop (mkF m 60 #[.val (.int p0), .val (.int p1), .val (.int p2), .val (.int p3), .val (.int p4), .val (.int (3 : Int32)), .val (.int i1), .val (.int i2), .val (.int i3), .val (.int i4), .val (.ref b1), .unset, .unset] [])) _
    refine XS.iload X18.here hx rfl (hb hby at_60) rfl ?_
    show Steps p.tables e below (T18.setTop (mkF m 62 #[.val (.int p0), .val (.int p1), .val (.int p2), .val (.int p3), .val (.int p4), .val (.int (3 : Int32)), .val (.int i1), .val (.int i2), .val (.int i3), .val (.int i4), .val (.ref b1), .unset, .unset] [(.int (3 : Int32))])) _
    refine XS.iconst X18.here hx rfl (hb hby at_62) ?_
    refine XS.icmpNo X18.here hx rfl (hb hby at_63) rfl (flt (by decide : ¬ ((3 : Int32) < (2 : Int32)))).1 ?_
    refine XS.aload X18.here hx rfl (hb hby at_66) rfl rfl ?_
    refine XS.iload X18.here hx rfl (hb hby at_68) rfl ?_
    refine XS.iloadN X18.here hx rfl (hb hby at_70) rfl ?_
    refine XS.i2dS X18.here hx rfl (hb hby at_71) rfl (v := (FP.i2d p2)) rfl ?_
    show Steps p.tables e below (T18.setTop (mkF m 72 #[.val (.int p0), .val (.int p1), .val (.int p2), .val (.int p3), .val (.int p4), .val (.int (3 : Int32)), .val (.int i1), .val (.int i2), .val (.int i3), .val (.int i4), .val (.ref b1), .unset, .unset] [(.double (FP.i2d p2)), (.int i2), (.ref b1)])) _
    refine st28.trans ?_
    show Steps p.tables e below (T28.setTop (mkF m 75 #[.val (.int p0), .val (.int p1), .val (.int p2), .val (.int p3), .val (.int p4), .val (.int (3 : Int32)), .val (.int i1), .val (.int i2), .val (.int i3), .val (.int i4), .val (.ref b1), .unset, .unset] [])) _
    refine XS.iload X28.here hx rfl (hb hby at_75) rfl ?_
    refine XS.iconst X28.here hx rfl (hb hby at_77) ?_
    refine XS.icmpNo X28.here hx rfl (hb hby at_78) rfl (flt (by decide : ¬ ((3 : Int32) < (3 : Int32)))).1 ?_
    refine XS.aload X28.here hx rfl (hb hby at_81) rfl rfl ?_
    refine XS.iload X28.here hx rfl (hb hby at_83) rfl ?_
    show Steps p.tables e below (T28.setTop (mkF m 85 #[.val (.int p0), .val (.int p1), .val (.int p2), .val (.int p3), .val (.int p4), .val (.int (3 : Int32)), .val (.int i1), .val (.int i2), .val (.int i3), .val (.int i4), .val (.ref b1), .unset, .unset] [(.int i3), (.ref b1)])) _
    refine XS.iloadN X28.here hx rfl (hb hby at_85) rfl ?_
    refine XS.i2dS X28.here hx rfl (hb hby at_86) rfl (v := (FP.i2d p3)) rfl ?_
    refine st38.trans ?_
    show Steps p.tables e below (T38.setTop (mkF m 90 #[.val (.int p0), .val (.int p1), .val (.int p2), .val (.int p3), .val (.int p4), .val (.int (3 : Int32)), .val (.int i1), .val (.int i2), .val (.int i3), .val (.int i4), .val (.ref b1), .unset, .unset] [])) _
    refine XS.aload X38.here hx rfl (hb hby at_90) rfl rfl ?_
    refine st48.trans ?_
    show Steps p.tables e below (T48.setTop (mkF m 95 #[.val (.int p0), .val (.int p1), .val (.int p2), .val (.int p3), .val (.int p4), .val (.int (3 : Int32)), .val (.int i1), .val (.int i2), .val (.int i3), .val (.int i4), .val (.ref b1), .unset, .unset] [])) _
    refine XS.aload X48.here hx rfl (hb hby at_95) rfl rfl ?_
    show Steps p.tables e below (T48.setTop (mkF m 97 #[.val (.int p0), .val (.int p1), .val (.int p2), .val (.int p3), .val (.int p4), .val (.int (3 : Int32)), .val (.int i1), .val (.int i2), .val (.int i3), .val (.int i4), .val (.ref b1), .unset, .unset] [(.ref b1)])) _
    refine st59.trans ?_
    show Steps p.tables e below (T59.setTop (mkF m 100 #[.val (.int p0), .val (.int p1), .val (.int p2), .val (.int p3), .val (.int p4), .val (.int (3 : Int32)), .val (.int i1), .val (.int i2), .val (.int i3), .val (.int i4), .val (.ref b1), .unset, .unset] [(.ref b2_2)])) _
    refine XS.astore X59.here hx rfl (hb hby at_100) rfl rfl (l' := #[.val (.int p0), .val (.int p1), .val (.int p2), .val (.int p3), .val (.int p4), .val (.int (3 : Int32)), .val (.int i1), .val (.int i2), .val (.int i3), .val (.int i4), .val (.ref b1), .val (.ref b2_2), .unset]) rfl ?_
    refine XS.aload X59.here hx rfl (hb hby at_102) rfl rfl ?_
    refine st60.trans ?_
    show Steps p.tables e below (T60.setTop (mkF m 107 #[.val (.int p0), .val (.int p1), .val (.int p2), .val (.int p3), .val (.int p4), .val (.int (3 : Int32)), .val (.int i1), .val (.int i2), .val (.int i3), .val (.int i4), .val (.ref b1), .val (.ref b2_2), .unset] [(.int (0 : Int32))])) _
    refine XS.ifNo X60.here hx rfl (hb hby at_107) rfl ((if0 _ _).trans (teq (by decide : (0 : Int32) = (0 : Int32))).2) ?_
    refine XS.aload X60.here hx rfl (hb hby at_110) rfl rfl ?_
    show Steps p.tables e below (T60.setTop (mkF m 112 #[.val (.int p0), .val (.int p1), .val (.int p2), .val (.int p3), .val (.int p4), .val (.int (3 : Int32)), .val (.int i1), .val (.int i2), .val (.int i3), .val (.int i4), .val (.ref b1), .val (.ref b2_2), .unset] [(.ref b2_2)])) _
    refine XS.iconst X60.here hx rfl (hb hby at_112) ?_
    refine X60.daload hx (j := (0 : Int32)) (v := (.double (0 : UInt64))) (by rw [e60]; exact Arq61.1) (State.isArrayOf_alike hZ.alike Arq61.2.1) Arq61.2.2 (inb_of Sq61 ⟨by decide, by decide⟩) (Has.at Hq61 (inb_of Sq61 ⟨by decide, by decide⟩) rfl) (g := (mkF m 113 #[.val (.int p0), .val (.int p1), .val (.int p2), .val (.int p3), .val (.int p4), .val (.int (3 : Int32)), .val (.int i1), .val (.int i2), .val (.int i3), .val (.int i4), .val (.ref b1), .val (.ref b2_2), .unset] [(.int (0 : Int32)), (.ref b2_2)])) rfl rfl (hb hby at_113) _ ?_
    show Steps p.tables e below (T60.setTop (mkF m 114 #[.val (.int p0), .val (.int p1), .val (.int p2), .val (.int p3), .val (.int p4), .val (.int (3 : Int32)), .val (.int i1), .val (.int i2), .val (.int i3), .val (.int i4), .val (.ref b1), .val (.ref b2_2), .unset] [(.double (0 : UInt64))])) _
    refine XS.dconst0 X60.here hx rfl (hb hby at_114) (v := (0 : UInt64)) rfl ?_
    refine XS.dcmpS X60.here hx rfl (hb hby at_115) rfl (v := (0 : Int32)) hd115 ?_
    refine XS.ifNo X60.here hx rfl (hb hby at_116) rfl ((if0 _ _).trans (teq (by decide : (0 : Int32) = (0 : Int32))).2) ?_
    refine XS.aload X60.here hx rfl (hb hby at_119) rfl rfl ?_
    show Steps p.tables e below (T60.setTop (mkF m 121 #[.val (.int p0), .val (.int p1), .val (.int p2), .val (.int p3), .val (.int p4), .val (.int (3 : Int32)), .val (.int i1), .val (.int i2), .val (.int i3), .val (.int i4), .val (.ref b1), .val (.ref b2_2), .unset] [(.ref b2_2)])) _
    refine XS.iconst X60.here hx rfl (hb hby at_121) ?_
    refine X60.daload hx (j := (1 : Int32)) (v := (.double (0 : UInt64))) (by rw [e60]; exact Arq62.1) (State.isArrayOf_alike hZ.alike Arq62.2.1) Arq62.2.2 (inb_of Sq62 ⟨by decide, by decide⟩) (Has.at Hq62 (inb_of Sq62 ⟨by decide, by decide⟩) rfl) (g := (mkF m 122 #[.val (.int p0), .val (.int p1), .val (.int p2), .val (.int p3), .val (.int p4), .val (.int (3 : Int32)), .val (.int i1), .val (.int i2), .val (.int i3), .val (.int i4), .val (.ref b1), .val (.ref b2_2), .unset] [(.int (1 : Int32)), (.ref b2_2)])) rfl rfl (hb hby at_122) _ ?_
    show Steps p.tables e below (T60.setTop (mkF m 123 #[.val (.int p0), .val (.int p1), .val (.int p2), .val (.int p3), .val (.int p4), .val (.int (3 : Int32)), .val (.int i1), .val (.int i2), .val (.int i3), .val (.int i4), .val (.ref b1), .val (.ref b2_2), .unset] [(.double (0 : UInt64))])) _
    refine XS.dconst0 X60.here hx rfl (hb hby at_123) (v := (0 : UInt64)) rfl ?_
    refine XS.dcmpS X60.here hx rfl (hb hby at_124) rfl (v := (0 : Int32)) hd124 ?_
    refine XS.ifNo X60.here hx rfl (hb hby at_125) rfl ((if0 _ _).trans (teq (by decide : (0 : Int32) = (0 : Int32))).2) ?_
    refine XS.aload X60.here hx rfl (hb hby at_128) rfl rfl ?_
    show Steps p.tables e below (T60.setTop (mkF m 130 #[.val (.int p0), .val (.int p1), .val (.int p2), .val (.int p3), .val (.int p4), .val (.int (3 : Int32)), .val (.int i1), .val (.int i2), .val (.int i3), .val (.int i4), .val (.ref b1), .val (.ref b2_2), .unset] [(.ref b2_2)])) _
    refine XS.iconst X60.here hx rfl (hb hby at_130) ?_
    refine X60.daload hx (j := (2 : Int32)) (v := (.double (0 : UInt64))) (by rw [e60]; exact Arq63.1) (State.isArrayOf_alike hZ.alike Arq63.2.1) Arq63.2.2 (inb_of Sq63 ⟨by decide, by decide⟩) (Has.at Hq63 (inb_of Sq63 ⟨by decide, by decide⟩) rfl) (g := (mkF m 131 #[.val (.int p0), .val (.int p1), .val (.int p2), .val (.int p3), .val (.int p4), .val (.int (3 : Int32)), .val (.int i1), .val (.int i2), .val (.int i3), .val (.int i4), .val (.ref b1), .val (.ref b2_2), .unset] [(.int (2 : Int32)), (.ref b2_2)])) rfl rfl (hb hby at_131) _ ?_
    show Steps p.tables e below (T60.setTop (mkF m 132 #[.val (.int p0), .val (.int p1), .val (.int p2), .val (.int p3), .val (.int p4), .val (.int (3 : Int32)), .val (.int i1), .val (.int i2), .val (.int i3), .val (.int i4), .val (.ref b1), .val (.ref b2_2), .unset] [(.double (0 : UInt64))])) _
    refine XS.dconst0 X60.here hx rfl (hb hby at_132) (v := (0 : UInt64)) rfl ?_
    refine XS.dcmpS X60.here hx rfl (hb hby at_133) rfl (v := (0 : Int32)) hd133 ?_
    refine XS.ifNo X60.here hx rfl (hb hby at_134) rfl ((if0 _ _).trans (teq (by decide : (0 : Int32) = (0 : Int32))).2) ?_
    refine XS.aload X60.here hx rfl (hb hby at_137) rfl rfl ?_
    show Steps p.tables e below (T60.setTop (mkF m 139 #[.val (.int p0), .val (.int p1), .val (.int p2), .val (.int p3), .val (.int p4), .val (.int (3 : Int32)), .val (.int i1), .val (.int i2), .val (.int i3), .val (.int i4), .val (.ref b1), .val (.ref b2_2), .unset] [(.ref b2_2)])) _
    refine XS.iconst X60.here hx rfl (hb hby at_139) ?_
    refine X60.daload hx (j := (3 : Int32)) (v := (.double (0 : UInt64))) (by rw [e60]; exact Arq64.1) (State.isArrayOf_alike hZ.alike Arq64.2.1) Arq64.2.2 (inb_of Sq64 ⟨by decide, by decide⟩) (Has.at Hq64 (inb_of Sq64 ⟨by decide, by decide⟩) rfl) (g := (mkF m 140 #[.val (.int p0), .val (.int p1), .val (.int p2), .val (.int p3), .val (.int p4), .val (.int (3 : Int32)), .val (.int i1), .val (.int i2), .val (.int i3), .val (.int i4), .val (.ref b1), .val (.ref b2_2), .unset] [(.int (3 : Int32)), (.ref b2_2)])) rfl rfl (hb hby at_140) _ ?_
    show Steps p.tables e below (T60.setTop (mkF m 141 #[.val (.int p0), .val (.int p1), .val (.int p2), .val (.int p3), .val (.int p4), .val (.int (3 : Int32)), .val (.int i1), .val (.int i2), .val (.int i3), .val (.int i4), .val (.ref b1), .val (.ref b2_2), .unset] [(.double (0 : UInt64))])) _
    refine XS.dconst0 X60.here hx rfl (hb hby at_141) (v := (0 : UInt64)) rfl ?_
    refine XS.dcmpS X60.here hx rfl (hb hby at_142) rfl (v := (0 : Int32)) hd142 ?_
    refine XS.ifNo X60.here hx rfl (hb hby at_143) rfl ((if0 _ _).trans (teq (by decide : (0 : Int32) = (0 : Int32))).2) ?_
    refine XS.iconst X60.here hx rfl (hb hby at_146) ?_
    show Steps p.tables e below (T60.setTop (mkF m 147 #[.val (.int p0), .val (.int p1), .val (.int p2), .val (.int p3), .val (.int p4), .val (.int (3 : Int32)), .val (.int i1), .val (.int i2), .val (.int i3), .val (.int i4), .val (.ref b1), .val (.ref b2_2), .unset] [(.int (1 : Int32))])) _
    refine XS.goto X60.here hx rfl (pc0 := 147) (pc' := 151) rfl (hb hby at_147) (by decide) (by decide) ?_
    refine XS.istore X60.here hx rfl (hb hby at_151) rfl (l' := #[.val (.int p0), .val (.int p1), .val (.int p2), .val (.int p3), .val (.int p4), .val (.int (3 : Int32)), .val (.int i1), .val (.int i2), .val (.int i3), .val (.int i4), .val (.ref b1), .val (.ref b2_2), .val (.int (1 : Int32))]) rfl ?_
    refine XS.aload X60.here hx rfl (hb hby at_153) rfl rfl ?_
    refine XS.iload X60.here hx rfl (hb hby at_155) rfl ?_
    refine XS.iload X60.here hx rfl (hb hby at_157) rfl ?_
    refine XS.i2dS X60.here hx rfl (hb hby at_159) rfl (v := (FP.i2d p4)) rfl ?_
    show Steps p.tables e below (T60.setTop (mkF m 160 #[.val (.int p0), .val (.int p1), .val (.int p2), .val (.int p3), .val (.int p4), .val (.int (3 : Int32)), .val (.int i1), .val (.int i2), .val (.int i3), .val (.int i4), .val (.ref b1), .val (.ref b2_2), .val (.int (1 : Int32))] [(.double (FP.i2d p4)), (.int i4), (.ref b1)])) _
    refine st65.trans ?_
    show Steps p.tables e below (T65.setTop (mkF m 163 #[.val (.int p0), .val (.int p1), .val (.int p2), .val (.int p3), .val (.int p4), .val (.int (3 : Int32)), .val (.int i1), .val (.int i2), .val (.int i3), .val (.int i4), .val (.ref b1), .val (.ref b2_2), .val (.int (1 : Int32))] [])) _
    refine XS.aload X65.here hx rfl (hb hby at_163) rfl rfl ?_
    refine st75.trans ?_
    show Steps p.tables e below (T75.setTop (mkF m 168 #[.val (.int p0), .val (.int p1), .val (.int p2), .val (.int p3), .val (.int p4), .val (.int (3 : Int32)), .val (.int i1), .val (.int i2), .val (.int i3), .val (.int i4), .val (.ref b1), .val (.ref b2_2), .val (.int (1 : Int32))] [(.ref b2_2)])) _
    refine XS.astore X75.here hx rfl (hb hby at_168) rfl rfl (l' := #[.val (.int p0), .val (.int p1), .val (.int p2), .val (.int p3), .val (.int p4), .val (.int (3 : Int32)), .val (.int i1), .val (.int i2), .val (.int i3), .val (.int i4), .val (.ref b1), .val (.ref b2_2), .val (.int (1 : Int32))]) rfl ?_
    refine XS.iload X75.here hx rfl (hb hby at_170) rfl ?_
    refine XS.ifNo X75.here hx rfl (hb hby at_172) rfl ((if0 _ _).trans (feq (by decide : ¬ ((1 : Int32) = (0 : Int32)))).1) ?_
    show Steps p.tables e below (T75.setTop (mkF m 175 #[.val (.int p0), .val (.int p1), .val (.int p2), .val (.int p3), .val (.int p4), .val (.int (3 : Int32)), .val (.int i1), .val (.int i2), .val (.int i3), .val (.int i4), .val (.ref b1), .val (.ref b2_2), .val (.int (1 : Int32))] [])) _
    refine XS.aload X75.here hx rfl (hb hby at_175) rfl rfl ?_
    refine st76.trans ?_
    show Steps p.tables e below (T76.setTop (mkF m 180 #[.val (.int p0), .val (.int p1), .val (.int p2), .val (.int p3), .val (.int p4), .val (.int (3 : Int32)), .val (.int i1), .val (.int i2), .val (.int i3), .val (.int i4), .val (.ref b1), .val (.ref b2_2), .val (.int (1 : Int32))] [(.int (1 : Int32))])) _
    refine XS.iconst X76.here hx rfl (hb hby at_180) ?_
    refine XS.icmpNo X76.here hx rfl (hb hby at_181) rfl (teq (by decide : (1 : Int32) = (1 : Int32))).2 ?_
    refine XS.aload X76.here hx rfl (hb hby at_184) rfl rfl ?_
    refine st77.trans ?_
    show Steps p.tables e below (T77.setTop (mkF m 189 #[.val (.int p0), .val (.int p1), .val (.int p2), .val (.int p3), .val (.int p4), .val (.int (3 : Int32)), .val (.int i1), .val (.int i2), .val (.int i3), .val (.int i4), .val (.ref b1), .val (.ref b2_2), .val (.int (1 : Int32))] [(.ref b30_2)])) _
    refine XS.iconst X77.here hx rfl (hb hby at_189) ?_
    refine X77.iaload hx (j := (0 : Int32)) (v := (.int i4)) (by rw [e77]; exact Arq78.1) (State.isArrayOf_alike hZ.alike Arq78.2.1) Arq78.2.2 (inb_of Sq78 ⟨by decide, by decide⟩) (Has.at Hq78 (inb_of Sq78 ⟨by decide, by decide⟩) rfl) (g := (mkF m 190 #[.val (.int p0), .val (.int p1), .val (.int p2), .val (.int p3), .val (.int p4), .val (.int (3 : Int32)), .val (.int i1), .val (.int i2), .val (.int i3), .val (.int i4), .val (.ref b1), .val (.ref b2_2), .val (.int (1 : Int32))] [(.int (0 : Int32)), (.ref b30_2)])) rfl rfl (hb hby at_190) _ ?_
    show Steps p.tables e below (T77.setTop (mkF m 191 #[.val (.int p0), .val (.int p1), .val (.int p2), .val (.int p3), .val (.int p4), .val (.int (3 : Int32)), .val (.int i1), .val (.int i2), .val (.int i3), .val (.int i4), .val (.ref b1), .val (.ref b2_2), .val (.int (1 : Int32))] [(.int i4)])) _
    refine XS.iload X77.here hx rfl (hb hby at_191) rfl ?_
    refine XS.icmpNo X77.here hx rfl (hb hby at_193) rfl (teq (rfl : i4 = i4)).2 ?_
    refine XS.aload X77.here hx rfl (hb hby at_196) rfl rfl ?_
    refine XS.iload X77.here hx rfl (hb hby at_198) rfl ?_
    show Steps p.tables e below (T77.setTop (mkF m 200 #[.val (.int p0), .val (.int p1), .val (.int p2), .val (.int p3), .val (.int p4), .val (.int (3 : Int32)), .val (.int i1), .val (.int i2), .val (.int i3), .val (.int i4), .val (.ref b1), .val (.ref b2_2), .val (.int (1 : Int32))] [(.int i4), (.ref b2_2)])) _
    refine X77.daload hx (j := i4) (v := (.double y9)) (by rw [e77]; exact Arq79.1) (State.isArrayOf_alike hZ.alike Arq79.2.1) Arq79.2.2 (inb_of Sq79 hix4) (Has.at Hq79 (inb_of Sq79 hix4) hr200) (g := (mkF m 200 #[.val (.int p0), .val (.int p1), .val (.int p2), .val (.int p3), .val (.int p4), .val (.int (3 : Int32)), .val (.int i1), .val (.int i2), .val (.int i3), .val (.int i4), .val (.ref b1), .val (.ref b2_2), .val (.int (1 : Int32))] [(.int i4), (.ref b2_2)])) rfl rfl (hb hby at_200) _ ?_
    show Steps p.tables e below (T77.setTop (mkF m 201 #[.val (.int p0), .val (.int p1), .val (.int p2), .val (.int p3), .val (.int p4), .val (.int (3 : Int32)), .val (.int i1), .val (.int i2), .val (.int i3), .val (.int i4), .val (.ref b1), .val (.ref b2_2), .val (.int (1 : Int32))] [(.double y9)])) _
    refine XS.iload X77.here hx rfl (hb hby at_201) rfl ?_
    refine XS.i2dS X77.here hx rfl (hb hby at_203) rfl (v := (FP.i2d p4)) rfl ?_
    refine XS.dcmpS X77.here hx rfl (hb hby at_204) rfl (v := (0 : Int32)) hd204 ?_
    refine XS.ifNo X77.here hx rfl (hb hby at_205) rfl ((if0 _ _).trans (teq (by decide : (0 : Int32) = (0 : Int32))).2) ?_
    refine XS.iconst X77.here hx rfl (hb hby at_208) ?_
    show Steps p.tables e below (T77.setTop (mkF m 209 #[.val (.int p0), .val (.int p1), .val (.int p2), .val (.int p3), .val (.int p4), .val (.int (3 : Int32)), .val (.int i1), .val (.int i2), .val (.int i3), .val (.int i4), .val (.ref b1), .val (.ref b2_2), .val (.int (1 : Int32))] [(.int (1 : Int32))])) _
    refine XS.goto X77.here hx rfl (pc0 := 209) (pc' := 213) rfl (hb hby at_209) (by decide) (by decide) ?_
    refine XS.istore X77.here hx rfl (hb hby at_213) rfl (l' := #[.val (.int p0), .val (.int p1), .val (.int p2), .val (.int p3), .val (.int p4), .val (.int (3 : Int32)), .val (.int i1), .val (.int i2), .val (.int i3), .val (.int i4), .val (.ref b1), .val (.ref b2_2), .val (.int (1 : Int32))]) rfl ?_
    refine XS.iload X77.here hx rfl (hb hby at_215) rfl ?_
    refine XS.ifNo X77.here hx rfl (hb hby at_217) rfl ((if0 _ _).trans (feq (by decide : ¬ ((1 : Int32) = (0 : Int32)))).1) ?_
    refine XS.aload X77.here hx rfl (hb hby at_220) rfl rfl ?_
    refine XS.iconst X77.here hx rfl (hb hby at_222) ?_
    show Steps p.tables e below (T77.setTop (mkF m 223 #[.val (.int p0), .val (.int p1), .val (.int p2), .val (.int p3), .val (.int p4), .val (.int (3 : Int32)), .val (.int i1), .val (.int i2), .val (.int i3), .val (.int i4), .val (.ref b1), .val (.ref b2_2), .val (.int (1 : Int32))] [(.int (0 : Int32)), (.ref b2_2)])) _
    refine XS.iload X77.here hx rfl (hb hby at_223) rfl ?_
    refine st80 _ ?_
    show Steps p.tables e below (T80.setTop (mkF m 228 #[.val (.int p0), .val (.int p1), .val (.int p2), .val (.int p3), .val (.int p4), .val (.int (3 : Int32)), .val (.int i1), .val (.int i2), .val (.int i3), .val (.int i4), .val (.ref b1), .val (.ref b2_2), .val (.int (1 : Int32))] [(.int (1 : Int32))])) _
    refine XS.ifNo X80.here hx rfl (hb hby at_228) rfl ((if0 _ _).trans (feq (by decide : ¬ ((1 : Int32) = (0 : Int32)))).1) ?_
    refine XS.aload X80.here hx rfl (hb hby at_231) rfl rfl ?_
    refine XS.iconst X80.here hx rfl (hb hby at_233) ?_
    refine XS.iload X80.here hx rfl (hb hby at_234) rfl ?_
    show Steps p.tables e below (T80.setTop (mkF m 236 #[.val (.int p0), .val (.int p1), .val (.int p2), .val (.int p3), .val (.int p4), .val (.int (3 : Int32)), .val (.int i1), .val (.int i2), .val (.int i3), .val (.int i4), .val (.ref b1), .val (.ref b2_2), .val (.int (1 : Int32))] [(.int i4), (.int (1 : Int32)), (.ref b2_2)])) _
    refine st81 _ ?_
    show Steps p.tables e below (T81.setTop (mkF m 239 #[.val (.int p0), .val (.int p1), .val (.int p2), .val (.int p3), .val (.int p4), .val (.int (3 : Int32)), .val (.int i1), .val (.int i2), .val (.int i3), .val (.int i4), .val (.ref b1), .val (.ref b2_2), .val (.int (1 : Int32))] [(.int (1 : Int32))])) _
    refine XS.ifNo X81.here hx rfl (hb hby at_239) rfl ((if0 _ _).trans (feq (by decide : ¬ ((1 : Int32) = (0 : Int32)))).1) ?_
    refine XS.aload X81.here hx rfl (hb hby at_242) rfl rfl ?_
    refine XS.iconst X81.here hx rfl (hb hby at_244) ?_
    refine XS.iload X81.here hx rfl (hb hby at_245) rfl ?_
    refine st82 _ ?_
    show Steps p.tables e below (T82.setTop (mkF m 250 #[.val (.int p0), .val (.int p1), .val (.int p2), .val (.int p3), .val (.int p4), .val (.int (3 : Int32)), .val (.int i1), .val (.int i2), .val (.int i3), .val (.int i4), .val (.ref b1), .val (.ref b2_2), .val (.int (1 : Int32))] [(.int (1 : Int32))])) _
    refine XS.ifNo X82.here hx rfl (hb hby at_250) rfl ((if0 _ _).trans (feq (by decide : ¬ ((1 : Int32) = (0 : Int32)))).1) ?_
    refine XS.aload X82.here hx rfl (hb hby at_253) rfl rfl ?_
    refine XS.iconst X82.here hx rfl (hb hby at_255) ?_
    refine XS.iload X82.here hx rfl (hb hby at_256) rfl ?_
    refine st83 _ ?_
    show Steps p.tables e below (T83.setTop (mkF m 261 #[.val (.int p0), .val (.int p1), .val (.int p2), .val (.int p3), .val (.int p4), .val (.int (3 : Int32)), .val (.int i1), .val (.int i2), .val (.int i3), .val (.int i4), .val (.ref b1), .val (.ref b2_2), .val (.int (1 : Int32))] [(.int (1 : Int32))])) _
    refine XS.ifNo X83.here hx rfl (hb hby at_261) rfl ((if0 _ _).trans (feq (by decide : ¬ ((1 : Int32) = (0 : Int32)))).1) ?_
    show Steps p.tables e below (T83.setTop (mkF m 264 #[.val (.int p0), .val (.int p1), .val (.int p2), .val (.int p3), .val (.int p4), .val (.int (3 : Int32)), .val (.int i1), .val (.int i2), .val (.int i3), .val (.int i4), .val (.ref b1), .val (.ref b2_2), .val (.int (1 : Int32))] [])) _
    refine XS.iconst X83.here hx rfl (hb hby at_264) ?_
    refine XS.goto X83.here hx rfl (pc0 := 265) (pc' := 269) rfl (hb hby at_265) (by decide) (by decide) ?_
    refine XS.istore X83.here hx rfl (hb hby at_269) rfl (l' := #[.val (.int p0), .val (.int p1), .val (.int p2), .val (.int p3), .val (.int p4), .val (.int (3 : Int32)), .val (.int i1), .val (.int i2), .val (.int i3), .val (.int i4), .val (.ref b1), .val (.ref b2_2), .val (.int (1 : Int32))]) rfl ?_
    refine XS.iload X83.here hx rfl (hb hby at_271) rfl ?_
    exact retN X83 hx (t := .boolean) Bd.returns (by simp) (hb hby at_273) hr
  · show Q0 n0 _ T83.heap _
    rw [e83]
    exact ⟨rfl, N83⟩
theorem own_four (w : Int32) : (w &&& (3 : Int32)) = 0 ∨ (w &&& (3 : Int32)) = 1 ∨ (w &&& (3 : Int32)) = 2 ∨ (w &&& (3 : Int32)) = 3 := by
  have a := c_and w (3 : Int32) (by decide)
  rw [show (3 : Int32).toInt = 3 by decide] at a
  have k : (w &&& (3 : Int32)).toInt = 0 ∨ (w &&& (3 : Int32)).toInt = 1 ∨ (w &&& (3 : Int32)).toInt = 2 ∨ (w &&& (3 : Int32)).toInt = 3 := by omega
  rcases k with k | k | k | k
  · exact Or.inl (Int32.toInt_inj.mp (by rw [k]; decide))
  · exact Or.inr (Or.inl (Int32.toInt_inj.mp (by rw [k]; decide)))
  · exact Or.inr (Or.inr (Or.inl (Int32.toInt_inj.mp (by rw [k]; decide))))
  · exact Or.inr (Or.inr (Or.inr (Int32.toInt_inj.mp (by rw [k]; decide))))
theorem own_x {i : Int32} (r : i = 0 ∨ i = 1 ∨ i = 2 ∨ i = 3) : ¬ i < 0 ∧ i < (4 : Int32) := by rcases r with rfl | rfl | rfl | rfl <;> decide
theorem own_n {i : Int32} (r : i = 0 ∨ i = 1 ∨ i = 2 ∨ i = 3) : i.toNatClampNeg < 4 := by rcases r with rfl | rfl | rfl | rfl <;> decide
theorem own_d {i j : Int32} (r : i = 0 ∨ i = 1 ∨ i = 2 ∨ i = 3) (q : j = 0 ∨ j = 1 ∨ j = 2 ∨ j = 3) (h : ¬ i = j) : i.toNatClampNeg ≠ j.toNatClampNeg := by
  rcases r with rfl | rfl | rfl | rfl <;> rcases q with rfl | rfl | rfl | rfl <;> first | exact absurd rfl h | decide
theorem own_n4 {n : Nat} (h : n < 4) : n = 0 ∨ n = 1 ∨ n = 2 ∨ n = 3 := by omega
theorem own_z {n : Nat} {z : Value} (h : n < 4) : ([z, z, z, z] : List Value).getD n z = z := by rcases own_n4 h with rfl | rfl | rfl | rfl <;> rfl
theorem own_gs {l : List Value} {n : Nat} {a d : Value} (h : n < l.length) : (l.set n a).getD n d = a := by simp [List.getD_eq_getElem?_getD, h]
theorem own_gn {l : List Value} {m n : Nat} {a d : Value} (h : m ≠ n) : (l.set m a).getD n d = l.getD n d := by simp [List.getD_eq_getElem?_getD, List.getElem?_set_ne h]
theorem own_1 {n : Nat} {z a : Value} (h : n < 4) : (([z, z, z, z] : List Value).set n a).set n z = [z, z, z, z] := by rcases own_n4 h with rfl | rfl | rfl | rfl <;> rfl
theorem own_11 {n : Nat} {z a b : Value} (h : n < 4) : ((([z, z, z, z] : List Value).set n a).set n b).set n z = [z, z, z, z] := by rcases own_n4 h with rfl | rfl | rfl | rfl <;> rfl
theorem own_111 {n : Nat} {z a b c : Value} (h : n < 4) : (((([z, z, z, z] : List Value).set n a).set n b).set n c).set n z = [z, z, z, z] := by rcases own_n4 h with rfl | rfl | rfl | rfl <;> rfl
theorem own_12 {n m : Nat} {z a b : Value} (h : n < 4) (h2 : m < 4) : (((([z, z, z, z] : List Value).set n a).set m b).set n z).set m z = [z, z, z, z] := by rcases own_n4 h with rfl | rfl | rfl | rfl <;> rcases own_n4 h2 with rfl | rfl | rfl | rfl <;> rfl
theorem own_112 {n m : Nat} {z a b c : Value} (h : n < 4) (h2 : m < 4) : ((((([z, z, z, z] : List Value).set n a).set n b).set m c).set n z).set m z = [z, z, z, z] := by rcases own_n4 h with rfl | rfl | rfl | rfl <;> rcases own_n4 h2 with rfl | rfl | rfl | rfl <;> rfl
theorem own_121 {n m : Nat} {z a b c : Value} (h : n < 4) (h2 : m < 4) : ((((([z, z, z, z] : List Value).set n a).set m b).set n c).set n z).set m z = [z, z, z, z] := by rcases own_n4 h with rfl | rfl | rfl | rfl <;> rcases own_n4 h2 with rfl | rfl | rfl | rfl <;> rfl
theorem own_122 {n m : Nat} {z a b c : Value} (h : n < 4) (h2 : m < 4) : ((((([z, z, z, z] : List Value).set n a).set m b).set m c).set n z).set m z = [z, z, z, z] := by rcases own_n4 h with rfl | rfl | rfl | rfl <;> rcases own_n4 h2 with rfl | rfl | rfl | rfl <;> rfl
theorem own_123 {n m k : Nat} {z a b c : Value} (h : n < 4) (h2 : m < 4) (h3 : k < 4) : (((((([z, z, z, z] : List Value).set n a).set m b).set k c).set n z).set m z).set k z = [z, z, z, z] := by rcases own_n4 h with rfl | rfl | rfl | rfl <;> rcases own_n4 h2 with rfl | rfl | rfl | rfl <;> rcases own_n4 h3 with rfl | rfl | rfl | rfl <;> rfl
theorem own_u {i j : Int32} {a : Value} (r : i = 0 ∨ i = 1 ∨ i = 2 ∨ i = 3) (q : j = 0 ∨ j = 1 ∨ j = 2 ∨ j = 3) {z : Value} (h : ¬ j = i) : (([z, z, z, z] : List Value).set i.toNatClampNeg a).getD j.toNatClampNeg z = z :=
  (own_gn (own_d r q fun e => h e.symm)).trans (own_z (own_n q))
open Jvm.OwnFP in
theorem own_add {x : UInt64} {i B : Int} (p : Int32) (hx : Ra i 1 x) (h : i.natAbs ≤ B) (hB : B ≤ 4294967296) : Ra (i + p.toInt) 1 (FP.dadd x (FP.i2d p)) := by
  have r := rng32 p
  exact hx.add (Ra.i2d p) (k := 0) (by omega) rfl (by decide)
theorem own_law (l : Launch) (Z : State) (a0 : Array Value) (hw : ∀ d ∈ tables_1, d.before a0 Z = true) (ws : List Jvm.Cond) (p0 : Int32) (p1 : Int32) (p2 : Int32) (p3 : Int32) (p4 : Int32) (h0 : Heap) (n0 : Nat) (Z0 : n0 ≤ h0.size) :
    MetFree l x (head1 (Jvm.Cond.code x code maxLocals ret :: ws) room_1) (fun a U => a = #[(.int p0), (.int p1), (.int p2), (.int p3), (.int p4)] ∧ Z.Warmed39 U.vm ∧ U.heap = h0) (fun _ _ _ _ _ => True) (fun _ U o U' => ∃ v L, o = .returned v ∧ Q0 n0 v U'.heap L ∧ FrameEnd U o U' L room_1.cells room_1.slots) := by
  have r1 := own_four ((p0.toUInt32 >>> ((2 : Int32) &&& 31).toUInt32).toInt32)
  have r2 := own_four ((p0.toUInt32 >>> ((4 : Int32) &&& 31).toUInt32).toInt32)
  have r3 := own_four ((p0.toUInt32 >>> ((6 : Int32) &&& 31).toUInt32).toInt32)
  have r4 := own_four ((p0.toUInt32 >>> ((8 : Int32) &&& 31).toUInt32).toInt32)
  obtain ⟨i1, e1⟩ : ∃ z, (((p0.toUInt32 >>> ((2 : Int32) &&& 31).toUInt32).toInt32) &&& (3 : Int32)) = z := ⟨_, rfl⟩
  rw [e1] at r1
  obtain ⟨i2, e2⟩ : ∃ z, (((p0.toUInt32 >>> ((4 : Int32) &&& 31).toUInt32).toInt32) &&& (3 : Int32)) = z := ⟨_, rfl⟩
  rw [e2] at r2
  obtain ⟨i3, e3⟩ : ∃ z, (((p0.toUInt32 >>> ((6 : Int32) &&& 31).toUInt32).toInt32) &&& (3 : Int32)) = z := ⟨_, rfl⟩
  rw [e3] at r3
  obtain ⟨i4, e4⟩ : ∃ z, (((p0.toUInt32 >>> ((8 : Int32) &&& 31).toUInt32).toInt32) &&& (3 : Int32)) = z := ⟨_, rfl⟩
  rw [e4] at r4
  have z0 := Jvm.OwnFP.ra_zero
  have zz := z0.eq z0 (by decide) rfl .l
  have b1 := rng32 p1
  have b2 := rng32 p2
  have b3 := rng32 p3
  have b4 := rng32 p4
  have y9 := own_add (B := 0) p4 z0 (by decide) (by decide)
  have y1 := own_add (B := 0) p1 z0 (by decide) (by decide)
  rcases own_four p0 with c | c | c | c
  · exact rm0 l Z a0 hw ws p0 p1 p2 p3 p4 i4 (([(.double (0 : UInt64)), (.double (0 : UInt64)), (.double (0 : UInt64)), (.double (0 : UInt64))] : List Value).set i4.toNatClampNeg (.double (FP.dadd (0 : UInt64) (FP.i2d p4)))) (([(.int (0 : Int32)), (.int (0 : Int32)), (.int (0 : Int32)), (.int (0 : Int32))] : List Value).set i4.toNatClampNeg (.int (1 : Int32))) (FP.dadd (0 : UInt64) (FP.i2d p4)) i1 i2 i3 h0 n0 Z0 (hix4 := own_x r4) (hr200 := own_gs (own_n r4)) (hv2 := c) (hv9 := e1) (hv16 := e2) (hv24 := e3) (hv32 := e4) (hd115 := zz) (hd124 := zz) (hd133 := zz) (hd142 := zz) (hix_160 := own_x r4) (hrl_160 := own_z (own_n r4)) (hrv_160 := own_z (own_n r4)) (hvl_160 := own_n r4) (hll_160 := own_n r4) (hls_160 := rfl) (hvs_160 := rfl) (nn41_160 := y9.nn) (hq41_160 := rfl) (hd204 := y9.eq (Jvm.OwnFP.Ra.i2d p4) (by decide) (Int.zero_add _) .l) (hix_225 := (by decide)) (hrd_225 := fun h => own_u r4 (by decide) h) (hd9_225 := zz) (hix_236 := (by decide)) (hrd_236 := fun h => own_u r4 (by decide) h) (hd9_236 := zz) (hix_247 := (by decide)) (hrd_247 := fun h => own_u r4 (by decide) h) (hd9_247 := zz) (hix_258 := (by decide)) (hrd_258 := fun h => own_u r4 (by decide) h) (hd9_258 := zz)
  · exact rm1 l Z a0 hw ws p0 p1 p2 p3 p4 i4 (([(.double (0 : UInt64)), (.double (0 : UInt64)), (.double (0 : UInt64)), (.double (0 : UInt64))] : List Value).set i1.toNatClampNeg (.double (FP.dadd (0 : UInt64) (FP.i2d p1)))) (0 : UInt64) (FP.dadd (0 : UInt64) (FP.i2d p1)) (([(.int (0 : Int32)), (.int (0 : Int32)), (.int (0 : Int32)), (.int (0 : Int32))] : List Value).set i1.toNatClampNeg (.int (1 : Int32))) (([(.double (0 : UInt64)), (.double (0 : UInt64)), (.double (0 : UInt64)), (.double (0 : UInt64))] : List Value).set i4.toNatClampNeg (.double (FP.dadd (0 : UInt64) (FP.i2d p4)))) (([(.int (0 : Int32)), (.int (0 : Int32)), (.int (0 : Int32)), (.int (0 : Int32))] : List Value).set i4.toNatClampNeg (.int (1 : Int32))) (FP.dadd (0 : UInt64) (FP.i2d p4)) i1 i2 i3 h0 n0 Z0 (hix4 := own_x r4) (hr200 := own_gs (own_n r4)) (hv2 := c) (hv9 := e1) (hv16 := e2) (hv24 := e3) (hv32 := e4) (hix_57 := own_x r1) (hrl_57 := own_z (own_n r1)) (hrv_57 := own_z (own_n r1)) (hvl_57 := (by (try simp only [List.length_set]); exact own_n r1)) (hll_57 := (by (try simp only [List.length_set]); exact own_n r1)) (hls_57 := rfl) (hvs_57 := rfl) (nn41_57 := y1.nn) (hq41_57 := rfl) (hx0_92 := own_x r1) (hv0_92 := (by (try simp only [List.length_set]); exact own_n r1)) (hl0_92 := (by (try simp only [List.length_set]); exact own_n r1)) (hvs_92 := own_1 (own_n r1)) (hls_92 := own_1 (own_n r1)) (hd115 := zz) (hd124 := zz) (hd133 := zz) (hd142 := zz) (hix_160 := own_x r4) (hrl_160 := own_z (own_n r4)) (hrv_160 := own_z (own_n r4)) (hvl_160 := own_n r4) (hll_160 := own_n r4) (hls_160 := rfl) (hvs_160 := rfl) (nn41_160 := y9.nn) (hq41_160 := rfl) (hd204 := y9.eq (Jvm.OwnFP.Ra.i2d p4) (by decide) (Int.zero_add _) .l) (hix_225 := (by decide)) (hrd_225 := fun h => own_u r4 (by decide) h) (hd9_225 := zz) (hix_236 := (by decide)) (hrd_236 := fun h => own_u r4 (by decide) h) (hd9_236 := zz) (hix_247 := (by decide)) (hrd_247 := fun h => own_u r4 (by decide) h) (hd9_247 := zz) (hix_258 := (by decide)) (hrd_258 := fun h => own_u r4 (by decide) h) (hd9_258 := zz)
  · by_cases h12 : i2 = i1
    · subst h12
      have y2 := own_add (B := 2147483648) p2 y1 (by omega) (by decide)
      exact rm2S l Z a0 hw ws p0 p1 p2 p3 p4 i4 (([(.double (0 : UInt64)), (.double (0 : UInt64)), (.double (0 : UInt64)), (.double (0 : UInt64))] : List Value).set i2.toNatClampNeg (.double (FP.dadd (0 : UInt64) (FP.i2d p1)))) (0 : UInt64) (FP.dadd (0 : UInt64) (FP.i2d p1)) (([(.int (0 : Int32)), (.int (0 : Int32)), (.int (0 : Int32)), (.int (0 : Int32))] : List Value).set i2.toNatClampNeg (.int (1 : Int32))) ((([(.double (0 : UInt64)), (.double (0 : UInt64)), (.double (0 : UInt64)), (.double (0 : UInt64))] : List Value).set i2.toNatClampNeg (.double (FP.dadd (0 : UInt64) (FP.i2d p1)))).set i2.toNatClampNeg (.double (FP.dadd (FP.dadd (0 : UInt64) (FP.i2d p1)) (FP.i2d p2)))) (FP.dadd (0 : UInt64) (FP.i2d p1)) (FP.dadd (FP.dadd (0 : UInt64) (FP.i2d p1)) (FP.i2d p2)) (([(.double (0 : UInt64)), (.double (0 : UInt64)), (.double (0 : UInt64)), (.double (0 : UInt64))] : List Value).set i4.toNatClampNeg (.double (FP.dadd (0 : UInt64) (FP.i2d p4)))) (([(.int (0 : Int32)), (.int (0 : Int32)), (.int (0 : Int32)), (.int (0 : Int32))] : List Value).set i4.toNatClampNeg (.int (1 : Int32))) (FP.dadd (0 : UInt64) (FP.i2d p4)) i2 i2 i3 h0 n0 Z0 (hix4 := own_x r4) (hr200 := own_gs (own_n r4)) (hv2 := c) (hv9 := e1) (hv16 := e2) (hv24 := e3) (hv32 := e4) (hix_57 := own_x r2) (hrl_57 := own_z (own_n r2)) (hrv_57 := own_z (own_n r2)) (hvl_57 := (by (try simp only [List.length_set]); exact own_n r2)) (hll_57 := (by (try simp only [List.length_set]); exact own_n r2)) (hls_57 := rfl) (hvs_57 := rfl) (nn41_57 := y1.nn) (hq41_57 := rfl) (hix_72 := own_x r2) (hrl_72 := own_gs (by (try simp only [List.length_set]); exact own_n r2)) (hrv_72 := own_gs (by (try simp only [List.length_set]); exact own_n r2)) (hvl_72 := (by (try simp only [List.length_set]); exact own_n r2)) (hvs_72 := rfl) (nn41_72 := y2.nn) (hq41_72 := rfl) (hx0_92 := own_x r2) (hv0_92 := (by (try simp only [List.length_set]); exact own_n r2)) (hl0_92 := (by (try simp only [List.length_set]); exact own_n r2)) (hvs_92 := own_11 (own_n r2)) (hls_92 := own_1 (own_n r2)) (hd115 := zz) (hd124 := zz) (hd133 := zz) (hd142 := zz) (hix_160 := own_x r4) (hrl_160 := own_z (own_n r4)) (hrv_160 := own_z (own_n r4)) (hvl_160 := own_n r4) (hll_160 := own_n r4) (hls_160 := rfl) (hvs_160 := rfl) (nn41_160 := y9.nn) (hq41_160 := rfl) (hd204 := y9.eq (Jvm.OwnFP.Ra.i2d p4) (by decide) (Int.zero_add _) .l) (hix_225 := (by decide)) (hrd_225 := fun h => own_u r4 (by decide) h) (hd9_225 := zz) (hix_236 := (by decide)) (hrd_236 := fun h => own_u r4 (by decide) h) (hd9_236 := zz) (hix_247 := (by decide)) (hrd_247 := fun h => own_u r4 (by decide) h) (hd9_247 := zz) (hix_258 := (by decide)) (hrd_258 := fun h => own_u r4 (by decide) h) (hd9_258 := zz)
    · have y2 := own_add (B := 0) p2 z0 (by decide) (by decide)
      have g12 := own_u (a := .int (1 : Int32)) (z := .int (0 : Int32)) r1 r2 h12
      have f12 := own_u (a := .double (FP.dadd (0 : UInt64) (FP.i2d p1))) (z := .double (0 : UInt64)) r1 r2 h12
      exact rm2D l Z a0 hw ws p0 p1 p2 p3 p4 i4 (([(.double (0 : UInt64)), (.double (0 : UInt64)), (.double (0 : UInt64)), (.double (0 : UInt64))] : List Value).set i1.toNatClampNeg (.double (FP.dadd (0 : UInt64) (FP.i2d p1)))) (0 : UInt64) (FP.dadd (0 : UInt64) (FP.i2d p1)) (([(.int (0 : Int32)), (.int (0 : Int32)), (.int (0 : Int32)), (.int (0 : Int32))] : List Value).set i1.toNatClampNeg (.int (1 : Int32))) ((([(.double (0 : UInt64)), (.double (0 : UInt64)), (.double (0 : UInt64)), (.double (0 : UInt64))] : List Value).set i1.toNatClampNeg (.double (FP.dadd (0 : UInt64) (FP.i2d p1)))).set i2.toNatClampNeg (.double (FP.dadd (0 : UInt64) (FP.i2d p2)))) (0 : UInt64) (FP.dadd (0 : UInt64) (FP.i2d p2)) ((([(.int (0 : Int32)), (.int (0 : Int32)), (.int (0 : Int32)), (.int (0 : Int32))] : List Value).set i1.toNatClampNeg (.int (1 : Int32))).set i2.toNatClampNeg (.int (1 : Int32))) (([(.double (0 : UInt64)), (.double (0 : UInt64)), (.double (0 : UInt64)), (.double (0 : UInt64))] : List Value).set i4.toNatClampNeg (.double (FP.dadd (0 : UInt64) (FP.i2d p4)))) (([(.int (0 : Int32)), (.int (0 : Int32)), (.int (0 : Int32)), (.int (0 : Int32))] : List Value).set i4.toNatClampNeg (.int (1 : Int32))) (FP.dadd (0 : UInt64) (FP.i2d p4)) i1 i2 i3 h0 n0 Z0 (hix4 := own_x r4) (hr200 := own_gs (own_n r4)) (hv2 := c) (hv9 := e1) (hv16 := e2) (hv24 := e3) (hv32 := e4) (hix_57 := own_x r1) (hrl_57 := own_z (own_n r1)) (hrv_57 := own_z (own_n r1)) (hvl_57 := (by (try simp only [List.length_set]); exact own_n r1)) (hll_57 := (by (try simp only [List.length_set]); exact own_n r1)) (hls_57 := rfl) (hvs_57 := rfl) (nn41_57 := y1.nn) (hq41_57 := rfl) (hix_72 := own_x r2) (hrl_72 := g12) (hrv_72 := f12) (hvl_72 := (by (try simp only [List.length_set]); exact own_n r2)) (hll_72 := (by (try simp only [List.length_set]); exact own_n r2)) (hls_72 := rfl) (hvs_72 := rfl) (nn41_72 := y2.nn) (hq41_72 := rfl) (hx0_92 := own_x r1) (hv0_92 := (by (try simp only [List.length_set]); exact own_n r1)) (hl0_92 := (by (try simp only [List.length_set]); exact own_n r1)) (hx1_92 := own_x r2) (hv1_92 := (by (try simp only [List.length_set]); exact own_n r2)) (hl1_92 := (by (try simp only [List.length_set]); exact own_n r2)) (hvs_92 := own_12 (own_n r1) (own_n r2)) (hls_92 := own_12 (own_n r1) (own_n r2)) (hd115 := zz) (hd124 := zz) (hd133 := zz) (hd142 := zz) (hix_160 := own_x r4) (hrl_160 := own_z (own_n r4)) (hrv_160 := own_z (own_n r4)) (hvl_160 := own_n r4) (hll_160 := own_n r4) (hls_160 := rfl) (hvs_160 := rfl) (nn41_160 := y9.nn) (hq41_160 := rfl) (hd204 := y9.eq (Jvm.OwnFP.Ra.i2d p4) (by decide) (Int.zero_add _) .l) (hix_225 := (by decide)) (hrd_225 := fun h => own_u r4 (by decide) h) (hd9_225 := zz) (hix_236 := (by decide)) (hrd_236 := fun h => own_u r4 (by decide) h) (hd9_236 := zz) (hix_247 := (by decide)) (hrd_247 := fun h => own_u r4 (by decide) h) (hd9_247 := zz) (hix_258 := (by decide)) (hrd_258 := fun h => own_u r4 (by decide) h) (hd9_258 := zz)
  · by_cases h12 : i2 = i1
    · subst h12
      have y2 := own_add (B := 2147483648) p2 y1 (by omega) (by decide)
      by_cases h13 : i3 = i2
      · subst h13
        have y3 := own_add (B := 4294967296) p3 y2 (by omega) (by decide)
        exact rm3SS l Z a0 hw ws p0 p1 p2 p3 p4 i4 (([(.double (0 : UInt64)), (.double (0 : UInt64)), (.double (0 : UInt64)), (.double (0 : UInt64))] : List Value).set i3.toNatClampNeg (.double (FP.dadd (0 : UInt64) (FP.i2d p1)))) (0 : UInt64) (FP.dadd (0 : UInt64) (FP.i2d p1)) (([(.int (0 : Int32)), (.int (0 : Int32)), (.int (0 : Int32)), (.int (0 : Int32))] : List Value).set i3.toNatClampNeg (.int (1 : Int32))) ((([(.double (0 : UInt64)), (.double (0 : UInt64)), (.double (0 : UInt64)), (.double (0 : UInt64))] : List Value).set i3.toNatClampNeg (.double (FP.dadd (0 : UInt64) (FP.i2d p1)))).set i3.toNatClampNeg (.double (FP.dadd (FP.dadd (0 : UInt64) (FP.i2d p1)) (FP.i2d p2)))) (FP.dadd (0 : UInt64) (FP.i2d p1)) (FP.dadd (FP.dadd (0 : UInt64) (FP.i2d p1)) (FP.i2d p2)) (((([(.double (0 : UInt64)), (.double (0 : UInt64)), (.double (0 : UInt64)), (.double (0 : UInt64))] : List Value).set i3.toNatClampNeg (.double (FP.dadd (0 : UInt64) (FP.i2d p1)))).set i3.toNatClampNeg (.double (FP.dadd (FP.dadd (0 : UInt64) (FP.i2d p1)) (FP.i2d p2)))).set i3.toNatClampNeg (.double (FP.dadd (FP.dadd (FP.dadd (0 : UInt64) (FP.i2d p1)) (FP.i2d p2)) (FP.i2d p3)))) (FP.dadd (FP.dadd (0 : UInt64) (FP.i2d p1)) (FP.i2d p2)) (FP.dadd (FP.dadd (FP.dadd (0 : UInt64) (FP.i2d p1)) (FP.i2d p2)) (FP.i2d p3)) (([(.double (0 : UInt64)), (.double (0 : UInt64)), (.double (0 : UInt64)), (.double (0 : UInt64))] : List Value).set i4.toNatClampNeg (.double (FP.dadd (0 : UInt64) (FP.i2d p4)))) (([(.int (0 : Int32)), (.int (0 : Int32)), (.int (0 : Int32)), (.int (0 : Int32))] : List Value).set i4.toNatClampNeg (.int (1 : Int32))) (FP.dadd (0 : UInt64) (FP.i2d p4)) i3 i3 i3 h0 n0 Z0 (hix4 := own_x r4) (hr200 := own_gs (own_n r4)) (hv2 := c) (hv9 := e1) (hv16 := e2) (hv24 := e3) (hv32 := e4) (hix_57 := own_x r3) (hrl_57 := own_z (own_n r3)) (hrv_57 := own_z (own_n r3)) (hvl_57 := (by (try simp only [List.length_set]); exact own_n r3)) (hll_57 := (by (try simp only [List.length_set]); exact own_n r3)) (hls_57 := rfl) (hvs_57 := rfl) (nn41_57 := y1.nn) (hq41_57 := rfl) (hix_72 := own_x r3) (hrl_72 := own_gs (by (try simp only [List.length_set]); exact own_n r3)) (hrv_72 := own_gs (by (try simp only [List.length_set]); exact own_n r3)) (hvl_72 := (by (try simp only [List.length_set]); exact own_n r3)) (hvs_72 := rfl) (nn41_72 := y2.nn) (hq41_72 := rfl) (hix_87 := own_x r3) (hrl_87 := own_gs (by (try simp only [List.length_set]); exact own_n r3)) (hrv_87 := own_gs (by (try simp only [List.length_set]); exact own_n r3)) (hvl_87 := (by (try simp only [List.length_set]); exact own_n r3)) (hvs_87 := rfl) (nn41_87 := y3.nn) (hq41_87 := rfl) (hx0_92 := own_x r3) (hv0_92 := (by (try simp only [List.length_set]); exact own_n r3)) (hl0_92 := (by (try simp only [List.length_set]); exact own_n r3)) (hvs_92 := own_111 (own_n r3)) (hls_92 := own_1 (own_n r3)) (hd115 := zz) (hd124 := zz) (hd133 := zz) (hd142 := zz) (hix_160 := own_x r4) (hrl_160 := own_z (own_n r4)) (hrv_160 := own_z (own_n r4)) (hvl_160 := own_n r4) (hll_160 := own_n r4) (hls_160 := rfl) (hvs_160 := rfl) (nn41_160 := y9.nn) (hq41_160 := rfl) (hd204 := y9.eq (Jvm.OwnFP.Ra.i2d p4) (by decide) (Int.zero_add _) .l) (hix_225 := (by decide)) (hrd_225 := fun h => own_u r4 (by decide) h) (hd9_225 := zz) (hix_236 := (by decide)) (hrd_236 := fun h => own_u r4 (by decide) h) (hd9_236 := zz) (hix_247 := (by decide)) (hrd_247 := fun h => own_u r4 (by decide) h) (hd9_247 := zz) (hix_258 := (by decide)) (hrd_258 := fun h => own_u r4 (by decide) h) (hd9_258 := zz)
      · have y3 := own_add (B := 0) p3 z0 (by decide) (by decide)
        have g13 := own_u (a := .int (1 : Int32)) (z := .int (0 : Int32)) r2 r3 h13
        have f13 := own_u (a := .double (FP.dadd (0 : UInt64) (FP.i2d p1))) (z := .double (0 : UInt64)) r2 r3 h13
        exact rm3SD l Z a0 hw ws p0 p1 p2 p3 p4 i4 (([(.double (0 : UInt64)), (.double (0 : UInt64)), (.double (0 : UInt64)), (.double (0 : UInt64))] : List Value).set i2.toNatClampNeg (.double (FP.dadd (0 : UInt64) (FP.i2d p1)))) (0 : UInt64) (FP.dadd (0 : UInt64) (FP.i2d p1)) (([(.int (0 : Int32)), (.int (0 : Int32)), (.int (0 : Int32)), (.int (0 : Int32))] : List Value).set i2.toNatClampNeg (.int (1 : Int32))) ((([(.double (0 : UInt64)), (.double (0 : UInt64)), (.double (0 : UInt64)), (.double (0 : UInt64))] : List Value).set i2.toNatClampNeg (.double (FP.dadd (0 : UInt64) (FP.i2d p1)))).set i2.toNatClampNeg (.double (FP.dadd (FP.dadd (0 : UInt64) (FP.i2d p1)) (FP.i2d p2)))) (FP.dadd (0 : UInt64) (FP.i2d p1)) (FP.dadd (FP.dadd (0 : UInt64) (FP.i2d p1)) (FP.i2d p2)) (((([(.double (0 : UInt64)), (.double (0 : UInt64)), (.double (0 : UInt64)), (.double (0 : UInt64))] : List Value).set i2.toNatClampNeg (.double (FP.dadd (0 : UInt64) (FP.i2d p1)))).set i2.toNatClampNeg (.double (FP.dadd (FP.dadd (0 : UInt64) (FP.i2d p1)) (FP.i2d p2)))).set i3.toNatClampNeg (.double (FP.dadd (0 : UInt64) (FP.i2d p3)))) (0 : UInt64) (FP.dadd (0 : UInt64) (FP.i2d p3)) ((([(.int (0 : Int32)), (.int (0 : Int32)), (.int (0 : Int32)), (.int (0 : Int32))] : List Value).set i2.toNatClampNeg (.int (1 : Int32))).set i3.toNatClampNeg (.int (1 : Int32))) (([(.double (0 : UInt64)), (.double (0 : UInt64)), (.double (0 : UInt64)), (.double (0 : UInt64))] : List Value).set i4.toNatClampNeg (.double (FP.dadd (0 : UInt64) (FP.i2d p4)))) (([(.int (0 : Int32)), (.int (0 : Int32)), (.int (0 : Int32)), (.int (0 : Int32))] : List Value).set i4.toNatClampNeg (.int (1 : Int32))) (FP.dadd (0 : UInt64) (FP.i2d p4)) i2 i2 i3 h0 n0 Z0 (hix4 := own_x r4) (hr200 := own_gs (own_n r4)) (hv2 := c) (hv9 := e1) (hv16 := e2) (hv24 := e3) (hv32 := e4) (hix_57 := own_x r2) (hrl_57 := own_z (own_n r2)) (hrv_57 := own_z (own_n r2)) (hvl_57 := (by (try simp only [List.length_set]); exact own_n r2)) (hll_57 := (by (try simp only [List.length_set]); exact own_n r2)) (hls_57 := rfl) (hvs_57 := rfl) (nn41_57 := y1.nn) (hq41_57 := rfl) (hix_72 := own_x r2) (hrl_72 := own_gs (by (try simp only [List.length_set]); exact own_n r2)) (hrv_72 := own_gs (by (try simp only [List.length_set]); exact own_n r2)) (hvl_72 := (by (try simp only [List.length_set]); exact own_n r2)) (hvs_72 := rfl) (nn41_72 := y2.nn) (hq41_72 := rfl) (hix_87 := own_x r3) (hrl_87 := g13) (hrv_87 := (own_gn (own_d r2 r3 fun e => h13 e.symm)).trans f13) (hvl_87 := (by (try simp only [List.length_set]); exact own_n r3)) (hll_87 := (by (try simp only [List.length_set]); exact own_n r3)) (hls_87 := rfl) (hvs_87 := rfl) (nn41_87 := y3.nn) (hq41_87 := rfl) (hx0_92 := own_x r2) (hv0_92 := (by (try simp only [List.length_set]); exact own_n r2)) (hl0_92 := (by (try simp only [List.length_set]); exact own_n r2)) (hx1_92 := own_x r3) (hv1_92 := (by (try simp only [List.length_set]); exact own_n r3)) (hl1_92 := (by (try simp only [List.length_set]); exact own_n r3)) (hvs_92 := own_112 (own_n r2) (own_n r3)) (hls_92 := own_12 (own_n r2) (own_n r3)) (hd115 := zz) (hd124 := zz) (hd133 := zz) (hd142 := zz) (hix_160 := own_x r4) (hrl_160 := own_z (own_n r4)) (hrv_160 := own_z (own_n r4)) (hvl_160 := own_n r4) (hll_160 := own_n r4) (hls_160 := rfl) (hvs_160 := rfl) (nn41_160 := y9.nn) (hq41_160 := rfl) (hd204 := y9.eq (Jvm.OwnFP.Ra.i2d p4) (by decide) (Int.zero_add _) .l) (hix_225 := (by decide)) (hrd_225 := fun h => own_u r4 (by decide) h) (hd9_225 := zz) (hix_236 := (by decide)) (hrd_236 := fun h => own_u r4 (by decide) h) (hd9_236 := zz) (hix_247 := (by decide)) (hrd_247 := fun h => own_u r4 (by decide) h) (hd9_247 := zz) (hix_258 := (by decide)) (hrd_258 := fun h => own_u r4 (by decide) h) (hd9_258 := zz)
    · have y2 := own_add (B := 0) p2 z0 (by decide) (by decide)
      have g12 := own_u (a := .int (1 : Int32)) (z := .int (0 : Int32)) r1 r2 h12
      have f12 := own_u (a := .double (FP.dadd (0 : UInt64) (FP.i2d p1))) (z := .double (0 : UInt64)) r1 r2 h12
      by_cases h13 : i3 = i1
      · subst h13
        have y3 := own_add (B := 2147483648) p3 y1 (by omega) (by decide)
        exact rm3DL l Z a0 hw ws p0 p1 p2 p3 p4 i4 (([(.double (0 : UInt64)), (.double (0 : UInt64)), (.double (0 : UInt64)), (.double (0 : UInt64))] : List Value).set i3.toNatClampNeg (.double (FP.dadd (0 : UInt64) (FP.i2d p1)))) (0 : UInt64) (FP.dadd (0 : UInt64) (FP.i2d p1)) (([(.int (0 : Int32)), (.int (0 : Int32)), (.int (0 : Int32)), (.int (0 : Int32))] : List Value).set i3.toNatClampNeg (.int (1 : Int32))) ((([(.double (0 : UInt64)), (.double (0 : UInt64)), (.double (0 : UInt64)), (.double (0 : UInt64))] : List Value).set i3.toNatClampNeg (.double (FP.dadd (0 : UInt64) (FP.i2d p1)))).set i2.toNatClampNeg (.double (FP.dadd (0 : UInt64) (FP.i2d p2)))) (0 : UInt64) (FP.dadd (0 : UInt64) (FP.i2d p2)) ((([(.int (0 : Int32)), (.int (0 : Int32)), (.int (0 : Int32)), (.int (0 : Int32))] : List Value).set i3.toNatClampNeg (.int (1 : Int32))).set i2.toNatClampNeg (.int (1 : Int32))) (((([(.double (0 : UInt64)), (.double (0 : UInt64)), (.double (0 : UInt64)), (.double (0 : UInt64))] : List Value).set i3.toNatClampNeg (.double (FP.dadd (0 : UInt64) (FP.i2d p1)))).set i2.toNatClampNeg (.double (FP.dadd (0 : UInt64) (FP.i2d p2)))).set i3.toNatClampNeg (.double (FP.dadd (FP.dadd (0 : UInt64) (FP.i2d p1)) (FP.i2d p3)))) (FP.dadd (0 : UInt64) (FP.i2d p1)) (FP.dadd (FP.dadd (0 : UInt64) (FP.i2d p1)) (FP.i2d p3)) (([(.double (0 : UInt64)), (.double (0 : UInt64)), (.double (0 : UInt64)), (.double (0 : UInt64))] : List Value).set i4.toNatClampNeg (.double (FP.dadd (0 : UInt64) (FP.i2d p4)))) (([(.int (0 : Int32)), (.int (0 : Int32)), (.int (0 : Int32)), (.int (0 : Int32))] : List Value).set i4.toNatClampNeg (.int (1 : Int32))) (FP.dadd (0 : UInt64) (FP.i2d p4)) i3 i2 i3 h0 n0 Z0 (hix4 := own_x r4) (hr200 := own_gs (own_n r4)) (hv2 := c) (hv9 := e1) (hv16 := e2) (hv24 := e3) (hv32 := e4) (hix_57 := own_x r3) (hrl_57 := own_z (own_n r3)) (hrv_57 := own_z (own_n r3)) (hvl_57 := (by (try simp only [List.length_set]); exact own_n r3)) (hll_57 := (by (try simp only [List.length_set]); exact own_n r3)) (hls_57 := rfl) (hvs_57 := rfl) (nn41_57 := y1.nn) (hq41_57 := rfl) (hix_72 := own_x r2) (hrl_72 := g12) (hrv_72 := f12) (hvl_72 := (by (try simp only [List.length_set]); exact own_n r2)) (hll_72 := (by (try simp only [List.length_set]); exact own_n r2)) (hls_72 := rfl) (hvs_72 := rfl) (nn41_72 := y2.nn) (hq41_72 := rfl) (hix_87 := own_x r3) (hrl_87 := (own_gn (own_d r2 r3 h12)).trans (own_gs (own_n r3))) (hrv_87 := (own_gn (own_d r2 r3 h12)).trans (own_gs (own_n r3))) (hvl_87 := (by (try simp only [List.length_set]); exact own_n r3)) (hvs_87 := rfl) (nn41_87 := y3.nn) (hq41_87 := rfl) (hx0_92 := own_x r3) (hv0_92 := (by (try simp only [List.length_set]); exact own_n r3)) (hl0_92 := (by (try simp only [List.length_set]); exact own_n r3)) (hx1_92 := own_x r2) (hv1_92 := (by (try simp only [List.length_set]); exact own_n r2)) (hl1_92 := (by (try simp only [List.length_set]); exact own_n r2)) (hvs_92 := own_121 (own_n r3) (own_n r2)) (hls_92 := own_12 (own_n r3) (own_n r2)) (hd115 := zz) (hd124 := zz) (hd133 := zz) (hd142 := zz) (hix_160 := own_x r4) (hrl_160 := own_z (own_n r4)) (hrv_160 := own_z (own_n r4)) (hvl_160 := own_n r4) (hll_160 := own_n r4) (hls_160 := rfl) (hvs_160 := rfl) (nn41_160 := y9.nn) (hq41_160 := rfl) (hd204 := y9.eq (Jvm.OwnFP.Ra.i2d p4) (by decide) (Int.zero_add _) .l) (hix_225 := (by decide)) (hrd_225 := fun h => own_u r4 (by decide) h) (hd9_225 := zz) (hix_236 := (by decide)) (hrd_236 := fun h => own_u r4 (by decide) h) (hd9_236 := zz) (hix_247 := (by decide)) (hrd_247 := fun h => own_u r4 (by decide) h) (hd9_247 := zz) (hix_258 := (by decide)) (hrd_258 := fun h => own_u r4 (by decide) h) (hd9_258 := zz)
      · by_cases h23 : i3 = i2
        · subst h23
          have y3 := own_add (B := 2147483648) p3 y2 (by omega) (by decide)
          exact rm3DL l Z a0 hw ws p0 p1 p2 p3 p4 i4 (([(.double (0 : UInt64)), (.double (0 : UInt64)), (.double (0 : UInt64)), (.double (0 : UInt64))] : List Value).set i1.toNatClampNeg (.double (FP.dadd (0 : UInt64) (FP.i2d p1)))) (0 : UInt64) (FP.dadd (0 : UInt64) (FP.i2d p1)) (([(.int (0 : Int32)), (.int (0 : Int32)), (.int (0 : Int32)), (.int (0 : Int32))] : List Value).set i1.toNatClampNeg (.int (1 : Int32))) ((([(.double (0 : UInt64)), (.double (0 : UInt64)), (.double (0 : UInt64)), (.double (0 : UInt64))] : List Value).set i1.toNatClampNeg (.double (FP.dadd (0 : UInt64) (FP.i2d p1)))).set i3.toNatClampNeg (.double (FP.dadd (0 : UInt64) (FP.i2d p2)))) (0 : UInt64) (FP.dadd (0 : UInt64) (FP.i2d p2)) ((([(.int (0 : Int32)), (.int (0 : Int32)), (.int (0 : Int32)), (.int (0 : Int32))] : List Value).set i1.toNatClampNeg (.int (1 : Int32))).set i3.toNatClampNeg (.int (1 : Int32))) (((([(.double (0 : UInt64)), (.double (0 : UInt64)), (.double (0 : UInt64)), (.double (0 : UInt64))] : List Value).set i1.toNatClampNeg (.double (FP.dadd (0 : UInt64) (FP.i2d p1)))).set i3.toNatClampNeg (.double (FP.dadd (0 : UInt64) (FP.i2d p2)))).set i3.toNatClampNeg (.double (FP.dadd (FP.dadd (0 : UInt64) (FP.i2d p2)) (FP.i2d p3)))) (FP.dadd (0 : UInt64) (FP.i2d p2)) (FP.dadd (FP.dadd (0 : UInt64) (FP.i2d p2)) (FP.i2d p3)) (([(.double (0 : UInt64)), (.double (0 : UInt64)), (.double (0 : UInt64)), (.double (0 : UInt64))] : List Value).set i4.toNatClampNeg (.double (FP.dadd (0 : UInt64) (FP.i2d p4)))) (([(.int (0 : Int32)), (.int (0 : Int32)), (.int (0 : Int32)), (.int (0 : Int32))] : List Value).set i4.toNatClampNeg (.int (1 : Int32))) (FP.dadd (0 : UInt64) (FP.i2d p4)) i1 i3 i3 h0 n0 Z0 (hix4 := own_x r4) (hr200 := own_gs (own_n r4)) (hv2 := c) (hv9 := e1) (hv16 := e2) (hv24 := e3) (hv32 := e4) (hix_57 := own_x r1) (hrl_57 := own_z (own_n r1)) (hrv_57 := own_z (own_n r1)) (hvl_57 := (by (try simp only [List.length_set]); exact own_n r1)) (hll_57 := (by (try simp only [List.length_set]); exact own_n r1)) (hls_57 := rfl) (hvs_57 := rfl) (nn41_57 := y1.nn) (hq41_57 := rfl) (hix_72 := own_x r3) (hrl_72 := g12) (hrv_72 := f12) (hvl_72 := (by (try simp only [List.length_set]); exact own_n r3)) (hll_72 := (by (try simp only [List.length_set]); exact own_n r3)) (hls_72 := rfl) (hvs_72 := rfl) (nn41_72 := y2.nn) (hq41_72 := rfl) (hix_87 := own_x r3) (hrl_87 := own_gs (by (try simp only [List.length_set]); exact own_n r3)) (hrv_87 := own_gs (by (try simp only [List.length_set]); exact own_n r3)) (hvl_87 := (by (try simp only [List.length_set]); exact own_n r3)) (hvs_87 := rfl) (nn41_87 := y3.nn) (hq41_87 := rfl) (hx0_92 := own_x r1) (hv0_92 := (by (try simp only [List.length_set]); exact own_n r1)) (hl0_92 := (by (try simp only [List.length_set]); exact own_n r1)) (hx1_92 := own_x r3) (hv1_92 := (by (try simp only [List.length_set]); exact own_n r3)) (hl1_92 := (by (try simp only [List.length_set]); exact own_n r3)) (hvs_92 := own_122 (own_n r1) (own_n r3)) (hls_92 := own_12 (own_n r1) (own_n r3)) (hd115 := zz) (hd124 := zz) (hd133 := zz) (hd142 := zz) (hix_160 := own_x r4) (hrl_160 := own_z (own_n r4)) (hrv_160 := own_z (own_n r4)) (hvl_160 := own_n r4) (hll_160 := own_n r4) (hls_160 := rfl) (hvs_160 := rfl) (nn41_160 := y9.nn) (hq41_160 := rfl) (hd204 := y9.eq (Jvm.OwnFP.Ra.i2d p4) (by decide) (Int.zero_add _) .l) (hix_225 := (by decide)) (hrd_225 := fun h => own_u r4 (by decide) h) (hd9_225 := zz) (hix_236 := (by decide)) (hrd_236 := fun h => own_u r4 (by decide) h) (hd9_236 := zz) (hix_247 := (by decide)) (hrd_247 := fun h => own_u r4 (by decide) h) (hd9_247 := zz) (hix_258 := (by decide)) (hrd_258 := fun h => own_u r4 (by decide) h) (hd9_258 := zz)
        · have y3 := own_add (B := 0) p3 z0 (by decide) (by decide)
          have g13 := own_u (a := .int (1 : Int32)) (z := .int (0 : Int32)) r1 r3 h13
          have f13 := own_u (a := .double (FP.dadd (0 : UInt64) (FP.i2d p1))) (z := .double (0 : UInt64)) r1 r3 h13
          have d23 := own_d r2 r3 fun e => h23 e.symm
          exact rm3DN l Z a0 hw ws p0 p1 p2 p3 p4 i4 (([(.double (0 : UInt64)), (.double (0 : UInt64)), (.double (0 : UInt64)), (.double (0 : UInt64))] : List Value).set i1.toNatClampNeg (.double (FP.dadd (0 : UInt64) (FP.i2d p1)))) (0 : UInt64) (FP.dadd (0 : UInt64) (FP.i2d p1)) (([(.int (0 : Int32)), (.int (0 : Int32)), (.int (0 : Int32)), (.int (0 : Int32))] : List Value).set i1.toNatClampNeg (.int (1 : Int32))) ((([(.double (0 : UInt64)), (.double (0 : UInt64)), (.double (0 : UInt64)), (.double (0 : UInt64))] : List Value).set i1.toNatClampNeg (.double (FP.dadd (0 : UInt64) (FP.i2d p1)))).set i2.toNatClampNeg (.double (FP.dadd (0 : UInt64) (FP.i2d p2)))) (0 : UInt64) (FP.dadd (0 : UInt64) (FP.i2d p2)) ((([(.int (0 : Int32)), (.int (0 : Int32)), (.int (0 : Int32)), (.int (0 : Int32))] : List Value).set i1.toNatClampNeg (.int (1 : Int32))).set i2.toNatClampNeg (.int (1 : Int32))) (((([(.double (0 : UInt64)), (.double (0 : UInt64)), (.double (0 : UInt64)), (.double (0 : UInt64))] : List Value).set i1.toNatClampNeg (.double (FP.dadd (0 : UInt64) (FP.i2d p1)))).set i2.toNatClampNeg (.double (FP.dadd (0 : UInt64) (FP.i2d p2)))).set i3.toNatClampNeg (.double (FP.dadd (0 : UInt64) (FP.i2d p3)))) (0 : UInt64) (FP.dadd (0 : UInt64) (FP.i2d p3)) (((([(.int (0 : Int32)), (.int (0 : Int32)), (.int (0 : Int32)), (.int (0 : Int32))] : List Value).set i1.toNatClampNeg (.int (1 : Int32))).set i2.toNatClampNeg (.int (1 : Int32))).set i3.toNatClampNeg (.int (1 : Int32))) (([(.double (0 : UInt64)), (.double (0 : UInt64)), (.double (0 : UInt64)), (.double (0 : UInt64))] : List Value).set i4.toNatClampNeg (.double (FP.dadd (0 : UInt64) (FP.i2d p4)))) (([(.int (0 : Int32)), (.int (0 : Int32)), (.int (0 : Int32)), (.int (0 : Int32))] : List Value).set i4.toNatClampNeg (.int (1 : Int32))) (FP.dadd (0 : UInt64) (FP.i2d p4)) i1 i2 i3 h0 n0 Z0 (hix4 := own_x r4) (hr200 := own_gs (own_n r4)) (hv2 := c) (hv9 := e1) (hv16 := e2) (hv24 := e3) (hv32 := e4) (hix_57 := own_x r1) (hrl_57 := own_z (own_n r1)) (hrv_57 := own_z (own_n r1)) (hvl_57 := (by (try simp only [List.length_set]); exact own_n r1)) (hll_57 := (by (try simp only [List.length_set]); exact own_n r1)) (hls_57 := rfl) (hvs_57 := rfl) (nn41_57 := y1.nn) (hq41_57 := rfl) (hix_72 := own_x r2) (hrl_72 := g12) (hrv_72 := f12) (hvl_72 := (by (try simp only [List.length_set]); exact own_n r2)) (hll_72 := (by (try simp only [List.length_set]); exact own_n r2)) (hls_72 := rfl) (hvs_72 := rfl) (nn41_72 := y2.nn) (hq41_72 := rfl) (hix_87 := own_x r3) (hrl_87 := (own_gn d23).trans g13) (hrv_87 := (own_gn d23).trans f13) (hvl_87 := (by (try simp only [List.length_set]); exact own_n r3)) (hll_87 := (by (try simp only [List.length_set]); exact own_n r3)) (hls_87 := rfl) (hvs_87 := rfl) (nn41_87 := y3.nn) (hq41_87 := rfl) (hx0_92 := own_x r1) (hv0_92 := (by (try simp only [List.length_set]); exact own_n r1)) (hl0_92 := (by (try simp only [List.length_set]); exact own_n r1)) (hx1_92 := own_x r2) (hv1_92 := (by (try simp only [List.length_set]); exact own_n r2)) (hl1_92 := (by (try simp only [List.length_set]); exact own_n r2)) (hx2_92 := own_x r3) (hv2_92 := (by (try simp only [List.length_set]); exact own_n r3)) (hl2_92 := (by (try simp only [List.length_set]); exact own_n r3)) (hvs_92 := own_123 (own_n r1) (own_n r2) (own_n r3)) (hls_92 := own_123 (own_n r1) (own_n r2) (own_n r3)) (hd115 := zz) (hd124 := zz) (hd133 := zz) (hd142 := zz) (hix_160 := own_x r4) (hrl_160 := own_z (own_n r4)) (hrv_160 := own_z (own_n r4)) (hvl_160 := own_n r4) (hll_160 := own_n r4) (hls_160 := rfl) (hvs_160 := rfl) (nn41_160 := y9.nn) (hq41_160 := rfl) (hd204 := y9.eq (Jvm.OwnFP.Ra.i2d p4) (by decide) (Int.zero_add _) .l) (hix_225 := (by decide)) (hrd_225 := fun h => own_u r4 (by decide) h) (hd9_225 := zz) (hix_236 := (by decide)) (hrd_236 := fun h => own_u r4 (by decide) h) (hd9_236 := zz) (hix_247 := (by decide)) (hrd_247 := fun h => own_u r4 (by decide) h) (hd9_247 := zz) (hix_258 := (by decide)) (hrd_258 := fun h => own_u r4 (by decide) h) (hd9_258 := zz)
set_option maxRecDepth 65536 in
set_option maxHeartbeats 40000000 in
theorem comes_1 {Post : Tables → Env → Array Value → State → Outcome → State → Prop} (hpost : ∀ tb e args s v u, (limb_1_1.after args s (.returned v) u = true ∧ limb_1_2.after args s (.returned v) u = true ∧ True) → FrameEnd s (.returned v) u (Jvm.fieldLocs frame_1_writes args s ++ Jvm.arrayLocs frame_1_arrays args s ++ Jvm.staticLocs frame_1_statics s) 16 128 → Post tb e args s (.returned v) u) :
    ArmFor flags0 classFile x code maxLocals ret World_1 tables_1 room_1 Calls_1 rest_1 Pre_1 Post := by
  intro l hfl _ _ p e ha hc hk s m args below hf hA hF happ hP
  obtain ⟨hcalls, hrest, hpre⟩ := hP
  obtain ⟨-, -, -, hnamed, -, -, -, hat⟩ := (Spec.applies_iff hf).mp happ
  obtain ⟨hg, hn⟩ := and_e (Cond.before_iff.mp (show (Jvm.Cond.and given_1 narrow_1).before args s = true from hpre))
  obtain ⟨g1, g2⟩ := and_e hg
  obtain ⟨g3, g4⟩ := and_e g2
  obtain ⟨g5, g6⟩ := and_e g4
  obtain ⟨g7, g8⟩ := and_e g6
  obtain ⟨g9, g10⟩ := and_e g8
  obtain ⟨w0, w1, w2, w3, w4, rfl⟩ : ∃ w0 w1 w2 w3 w4 : Value, args = #[w0, w1, w2, w3, w4] := by
    have hs : args.size = 5 := by simpa [Cond.value, given_1] using g1
    obtain ⟨L⟩ := args
    match L, hs with
    | [w0, w1, w2, w3, w4], _ => exact ⟨w0, w1, w2, w3, w4, rfl⟩
  have hw := fun d (hd : d ∈ tables_1) => atoms_spec (ws := Jvm.Cond.code x code maxLocals ret :: tables_1) hat d (List.mem_cons_of_mem _ hd)
  have hfit : Fit s := fun {y c} hc i hi => by
    obtain ⟨ha, rfl⟩ := Array.getElem?_eq_some_iff.mp hc
    have q := List.all_eq_true.mp ((Array.all_eq_true_iff_forall_mem.mp hF) _ (Array.getElem_mem ha)) i (List.mem_range.mpr hi)
    simpa [Array.getElem?_eq_getElem hi] using q
  obtain ⟨i0, ei0⟩ := is_v g3
  obtain rfl : w0 = (.int i0) := Option.some.inj ei0
  obtain ⟨i1, ei1⟩ := is_v g5
  obtain rfl : w1 = (.int i1) := Option.some.inj ei1
  obtain ⟨i2, ei2⟩ := is_v g7
  obtain rfl : w2 = (.int i2) := Option.some.inj ei2
  obtain ⟨i3, ei3⟩ := is_v g9
  obtain rfl : w3 = (.int i3) := Option.some.inj ei3
  obtain ⟨i4, ei4⟩ := is_v g10
  obtain rfl : w4 = (.int i4) := Option.some.inj ei4
  obtain ⟨n, o, h1, h2, h3, _, L, rfl, ⟨rfl, N⟩, hq⟩ := own_law l s _ hw tables_1 i0 i1 i2 i3 i4 s.heap s.heap.size (Nat.le_refl _)  p e ha hc hk s m _ below hf ((Spec.applies_iff_loose hf).mp happ).1 ⟨rfl, State.Warmed39.refl s, rfl⟩ trivial
  refine ⟨n, _, h1, h2, h3, hpost _ _ _ _ _ _ ⟨Cond.after_iff.mpr rfl, Cond.after_iff.mpr (eq_i res_at (Term.int_eval (1)) rfl), trivial⟩ ⟨hq.1, hq.2.1, (hq.2.2.sift fun y hy => Or.inr (N y hy)).mono (by decide) (by decide)⟩⟩
theorem main_1_1 : Claimed_1_1 := comes_1 fun _ _ _ _ _ _ h hF => ⟨h.1, hF⟩
theorem main_1_2 : Claimed_1_2 := comes_1 fun _ _ _ _ _ _ h hF => ⟨h.2.1, hF⟩
end Jvm.Pilot.@@N@@
namespace Jvm.Pilot.@@N@@
open Jvm Jvm.ClassFile Sem Op Lib Jvm.Free Jvm.Stand Jvm.Pilot.@@N@@.Jvm.D
/-! MADE BY PROGRAM (witnessworld.py) out of the Statement's table words and the real class files: 13 classes; the members and pool entries that the words name. The judged class is class 1, her method 2. -/
namespace start1
open Jvm.ClassFile
def u (s : String) : CpInfo := .utf8 (stringToUtf16 s)
/-- a pool by its gaps: so many unusable entries, then the entry; so many at the end -/
def gap : Nat → List CpInfo → List CpInfo
  | 0, r => r
  | n + 1, r => .unusable :: gap n r
def poolList (es : List (Nat × CpInfo)) (last : Nat) : List CpInfo := es.foldr (fun e r => gap e.1 (e.2 :: r)) (gap last [])
def pool (es : List (Nat × CpInfo)) (last : Nat) : Array CpInfo := ⟨poolList es last⟩
def fileOf (pool : Array CpInfo) (this : Nat) (attrs : Array Attribute := #[]) (ms : Array MethodInfo := #[]) (fl : Nat := 33) (sup : Nat := 0) (ifs : Array Nat := #[]) (fds : Array FieldInfo := #[]) : ClassFile where
  minorVersion := 0
  majorVersion := 65
  constantPool := pool
  accessFlags := fl
  thisClass := this
  superClass := sup
  interfaces := ifs
  fields := fds
  methods := ms
  attributes := attrs
def plain (name : String) (sup : Option ClassId) : Class where
  name := name
  kind := .ordinary
  loader := none
  accessFlags := 33
  super := sup
  interfaces := #[]
  cf := none
  fields := #[]
  methods := #[]
  instanceTypes := #[]
  staticTypes := #[]
  resolved := #[]
  callSites := []
  init := .initialized
  statics := none
  mirror := none

def pool0 : Array CpInfo := pool [(5, u "<init>"), (0, u "()V"), (1, .class_ 10), (1, u "java/lang/Object")] 113

def k0c0 : Code := { maxStack := 0, maxLocals := 1, code := object_method_1_code, exceptionTable := #[], attributes := #[] }
def k0m0 : Method := { name := "<init>", desc := "()V", sig := { parameters := [], returnType := none }, accessFlags := 1, code := some k0c0 }
/-- java/lang/Object -/
def k0 : Class := { plain "java/lang/Object" none with
  accessFlags := 33
  interfaces := #[]
  cf := some (fileOf pool0 8 #[] #[{ accessFlags := 1, nameIndex := 5, descriptorIndex := 6, attributes := #[] }] 33 0 #[] #[])
  fields := #[]
  methods := #[k0m0]
  instanceTypes := #[]
  staticTypes := #[]
  resolved := Array.replicate 124 none
  statics := none }

def pool1 : Array CpInfo := pool [(2, .class_ 4), (1, u "java/lang/Object"), (0, u "<init>"), (0, u "()V"), (0, .class_ 8), (0, u "com/example/leeway/leeway/lp/SparseColumn"), (0, .methodref 7 10), (0, .nameAndType 5 11), (0, u "(I)V"), (0, .methodref 7 13), (0, .nameAndType 14 15), (0, u "add"), (0, u "(ID)V"), (0, .methodref 7 17), (0, .nameAndType 18 6), (0, u "clear"), (0, .methodref 7 20), (0, .nameAndType 21 22), (0, u "values"), (0, u "()[D"), (0, .methodref 7 24), (0, .nameAndType 25 26), (0, u "count"), (0, u "()I"), (0, .methodref 7 28), (0, .nameAndType 29 30), (0, u "rows"), (0, u "()[I"), (0, .methodref 32 33), (0, .class_ 34), (0, .nameAndType 35 36), (0, u "com/example/leeway/leeway/lp/SparseColumnClearPinLaw"), (0, u "zeroUnless"), (0, u "([DII)Z"), (3, u "law"), (0, u "(IIIII)Z")] 4

def k1m0 : Method := { name := "<init>", desc := "()V", sig := { parameters := [], returnType := none }, accessFlags := 1, code := none }
def k1c1 : Code := { maxStack := 4, maxLocals := 3, code := method_2_code, exceptionTable := #[], attributes := #[] }
def k1m1 : Method := { name := "zeroUnless", desc := "([DII)Z", sig := { parameters := [(.array .double), .int, .int], returnType := some .boolean }, accessFlags := 10, code := some k1c1 }
def k1c2 : Code := { maxStack := 4, maxLocals := 13, code := code, exceptionTable := #[], attributes := #[] }
def k1m2 : Method := { name := "law", desc := "(IIIII)Z", sig := { parameters := [.int, .int, .int, .int, .int], returnType := some .boolean }, accessFlags := 9, code := some k1c2 }
/-- com/example/leeway/leeway/lp/SparseColumnClearPinLaw -/
def k1 : Class := { plain "com/example/leeway/leeway/lp/SparseColumnClearPinLaw" (some 0) with
  accessFlags := 49
  interfaces := #[]
  cf := some (fileOf pool1 32 #[] #[{ accessFlags := 1, nameIndex := 5, descriptorIndex := 6, attributes := #[] }, { accessFlags := 10, nameIndex := 35, descriptorIndex := 36, attributes := #[] }, { accessFlags := 9, nameIndex := 40, descriptorIndex := 41, attributes := #[] }] 49 2 #[] #[])
  fields := #[]
  methods := #[k1m0, k1m1, k1m2]
  instanceTypes := #[]
  staticTypes := #[]
  resolved := Array.replicate 46 none
  statics := none }

def pool2 : Array CpInfo := pool [(1, .methodref 2 3), (0, .class_ 4), (0, .nameAndType 5 6), (0, u "java/lang/Object"), (0, u "<init>"), (0, u "()V"), (0, .fieldref 8 9), (0, .class_ 10), (0, .nameAndType 11 12), (0, u "com/example/leeway/leeway/lp/SparseColumn"), (0, u "values"), (0, u "[D"), (0, .fieldref 8 14), (0, .nameAndType 15 16), (0, u "listed"), (0, u "[Z"), (0, .fieldref 8 18), (0, .nameAndType 19 20), (0, u "rows"), (0, u "[I"), (0, .fieldref 8 22), (0, .nameAndType 23 24), (0, u "count"), (0, u "I"), (0, u "(I)V"), (2, u "()[D"), (0, u "()[I"), (0, u "()I"), (0, u "clear"), (1, u "add"), (0, u "(ID)V")] 4

def k2c0 : Code := { maxStack := 2, maxLocals := 2, code := prog_87_method_1_code, exceptionTable := #[], attributes := #[] }
def k2m0 : Method := { name := "<init>", desc := "(I)V", sig := { parameters := [.int], returnType := none }, accessFlags := 0, code := some k2c0 }
def k2c1 : Code := { maxStack := 1, maxLocals := 1, code := prog_87_method_2_code, exceptionTable := #[], attributes := #[] }
def k2m1 : Method := { name := "values", desc := "()[D", sig := { parameters := [], returnType := some (.array .double) }, accessFlags := 0, code := some k2c1 }
def k2c2 : Code := { maxStack := 1, maxLocals := 1, code := prog_87_method_3_code, exceptionTable := #[], attributes := #[] }
def k2m2 : Method := { name := "rows", desc := "()[I", sig := { parameters := [], returnType := some (.array .int) }, accessFlags := 0, code := some k2c2 }
def k2c3 : Code := { maxStack := 1, maxLocals := 1, code := prog_87_method_4_code, exceptionTable := #[], attributes := #[] }
def k2m3 : Method := { name := "count", desc := "()I", sig := { parameters := [], returnType := some .int }, accessFlags := 0, code := some k2c3 }
def k2c4 : Code := { maxStack := 4, maxLocals := 2, code := prog_87_method_5_code, exceptionTable := #[], attributes := #[] }
def k2m4 : Method := { name := "clear", desc := "()V", sig := { parameters := [], returnType := none }, accessFlags := 0, code := some k2c4 }
def k2c5 : Code := { maxStack := 6, maxLocals := 4, code := prog_87_method_6_code, exceptionTable := #[], attributes := #[] }
def k2m5 : Method := { name := "add", desc := "(ID)V", sig := { parameters := [.int, .double], returnType := none }, accessFlags := 0, code := some k2c5 }
/-- com/example/leeway/leeway/lp/SparseColumn -/
def k2 : Class := { plain "com/example/leeway/leeway/lp/SparseColumn" (some 0) with
  accessFlags := 48
  interfaces := #[]
  cf := some (fileOf pool2 8 #[] #[{ accessFlags := 0, nameIndex := 5, descriptorIndex := 25, attributes := #[] }, { accessFlags := 0, nameIndex := 11, descriptorIndex := 28, attributes := #[] }, { accessFlags := 0, nameIndex := 19, descriptorIndex := 29, attributes := #[] }, { accessFlags := 0, nameIndex := 23, descriptorIndex := 30, attributes := #[] }, { accessFlags := 0, nameIndex := 31, descriptorIndex := 6, attributes := #[] }, { accessFlags := 0, nameIndex := 33, descriptorIndex := 34, attributes := #[] }] 48 2 #[] #[{ accessFlags := 18, nameIndex := 11, descriptorIndex := 12, attributes := #[] }, { accessFlags := 18, nameIndex := 15, descriptorIndex := 16, attributes := #[] }, { accessFlags := 18, nameIndex := 19, descriptorIndex := 20, attributes := #[] }, { accessFlags := 2, nameIndex := 23, descriptorIndex := 24, attributes := #[] }])
  fields := #[{ name := "values", type := (.array .double), accessFlags := 18, slot := 0, constantValue := 0 }, { name := "listed", type := (.array .boolean), accessFlags := 18, slot := 1, constantValue := 0 }, { name := "rows", type := (.array .int), accessFlags := 18, slot := 2, constantValue := 0 }, { name := "count", type := .int, accessFlags := 2, slot := 3, constantValue := 0 }]
  methods := #[k2m0, k2m1, k2m2, k2m3, k2m4, k2m5]
  instanceTypes := #[(.array .double), (.array .boolean), (.array .int), .int]
  staticTypes := #[]
  resolved := Array.replicate 39 none
  statics := none }

def pool3 : Array CpInfo := pool [(1, u "java/lang/Cloneable"), (0, .class_ 1), (0, u "java/lang/Object"), (0, .class_ 3)] 3

/-- java/lang/Cloneable -/
def k3 : Class := { plain "java/lang/Cloneable" (some 0) with
  accessFlags := 1537
  interfaces := #[]
  cf := some (fileOf pool3 2 #[] #[] 1537 4 #[] #[])
  fields := #[]
  methods := #[]
  instanceTypes := #[]
  staticTypes := #[]
  resolved := Array.replicate 8 none
  statics := none }

def pool4 : Array CpInfo := pool [(1, u "java/io/Serializable"), (0, .class_ 1), (0, u "java/lang/Object"), (0, .class_ 3)] 3

/-- java/io/Serializable -/
def k4 : Class := { plain "java/io/Serializable" (some 0) with
  accessFlags := 1537
  interfaces := #[]
  cf := some (fileOf pool4 2 #[] #[] 1537 4 #[] #[])
  fields := #[]
  methods := #[]
  instanceTypes := #[]
  staticTypes := #[]
  resolved := Array.replicate 8 none
  statics := none }

/-- the primitive boolean -/
def k5 : Class := { plain "boolean" none with kind := .primitive 'Z', accessFlags := 0x411 }
/-- [Z -/
def k6 : Class := { plain "[Z" (some 0) with kind := .array 5 .boolean, interfaces := #[3, 4], accessFlags := 1041 }

/-- the primitive byte -/
def k7 : Class := { plain "byte" none with kind := .primitive 'B', accessFlags := 0x411 }
/-- [B -/
def k8 : Class := { plain "[B" (some 0) with kind := .array 7 .byte, interfaces := #[3, 4], accessFlags := 1041 }

/-- the primitive double -/
def k9 : Class := { plain "double" none with kind := .primitive 'D', accessFlags := 0x411 }
/-- [D -/
def k10 : Class := { plain "[D" (some 0) with kind := .array 9 .double, interfaces := #[3, 4], accessFlags := 1041 }

/-- the primitive int -/
def k11 : Class := { plain "int" none with kind := .primitive 'I', accessFlags := 0x411 }
/-- [I -/
def k12 : Class := { plain "[I" (some 0) with kind := .array 11 .int, interfaces := #[3, 4], accessFlags := 1041 }

def heap : Heap := #[]
def classes : Array Class := #[k0, k1, k2, k3, k4, k5, k6, k7, k8, k9, k10, k11, k12]
def interned : List (Array UInt16 × Addr) := []
def slotsUsed : Nat := 0
def theMethod : MethodId := ⟨1, 2⟩
def args0 : Array Value := #[.int 5, .int 7, .int 3, .int 2, .int 1]
def aboutOver (below : List Frame) : State where
  vm := { classes := classes, interned := interned.toArray }
  heap := heap
  slotsUsed := slotsUsed
  threads := #[{ frames := .invoking theMethod args0 :: below }]
def below0 : List Frame := [.native { method := ⟨0, 0⟩, args := #[] }]
def about1 : State := aboutOver below0
def p0 : Program := .bare "" "" ""
def e0 : Env := launch0.env 0 0 0
theorem w_frames : about1.frames = Frame.invoking theMethod args0 :: below0 := rfl
set_option maxRecDepth 65536 in
theorem w_args : argsFit about1.vm theMethod args0 = true := by decide +kernel
set_option maxRecDepth 65536 in
theorem w_heap : heapFits about1 = true := by decide +kernel
set_option maxRecDepth 65536 in
theorem w_runnable : about1.curStatus? = some .runnable := by decide +kernel
set_option maxRecDepth 65536 in
theorem w_alone : about1.alone = true := by decide +kernel
set_option maxRecDepth 65536 in
theorem w_named : about1.methodNamed? x = some theMethod := by decide +kernel
set_option maxRecDepth 65536 in
theorem w_hears : about1.hears theMethod below0 = true := by decide +kernel
set_option maxRecDepth 65536 in
theorem w_ripe : about1.ripe theMethod args0 below0 = true := by decide +kernel
theorem w_running : about1.status = .running := rfl
set_option maxRecDepth 65536 in
theorem w_room : about1.hasRoom e0.platform room_1 = true :=
  launch0.hasRoom_least _ room_1 (by decide +kernel) (by decide +kernel) (by decide +kernel) (by decide +kernel) (by decide +kernel) (by decide +kernel)
theorem allAtoms_all (ts : List Jvm.Cond) (a : Array Jvm.Value) (st : Jvm.State) : (allAtoms ts).before a st = ts.all (fun c => c.before a st) := by
  induction ts with
  | nil => rfl
  | cons c t ih =>
    show (Jvm.Cond.and c (allAtoms t)).before a st = _
    rw [Jvm.Cond.before_and, ih, List.all_cons]
def words1 : List Jvm.Cond := Jvm.Cond.code x code maxLocals ret :: tables_1
/-- a 'code' word, met by the world's own term for the bytes: nothing is compared byte by byte -/
theorem code_word {y : MethodName} {bytes : ByteArray} {mx : Nat} {rt : Option FieldType} {a : Array Value} {s : State} {m : MethodId} {meth : Method} {c : Code} (h1 : s.methodNamed? y = some m) (h2 : s.vm.method? m = some meth) (h3 : meth.code = some c) (h4 : c.code = bytes)
    (h5 : (c.maxLocals == mx && c.exceptionTable.isEmpty && decide (c.maxStack ≤ mostOperands) && decide (meth.sig.returnType = rt) && !meth.locks && decide (parseMethodDescriptor y.desc = some meth.sig)) = true) : (Jvm.Cond.code y bytes mx rt).before a s = true := by
  simp only [Bool.and_eq_true, beq_iff_eq, Bool.not_eq_true', decide_eq_true_eq] at h5
  obtain ⟨⟨⟨⟨⟨g1, g2⟩, g3⟩, g4⟩, g5⟩, g6⟩ := h5
  simp [Cond.before, Cond.holds, Cond.value, h1, h2, h3, h4, g1, g2, g3, g4, g5, g6]
def isCode : Jvm.Cond → Bool
  | .code _ _ _ _ => true
  | _ => false
theorem all_split {L : List Jvm.Cond} {P : Jvm.Cond → Bool} (h1 : L.all (fun c => isCode c || P c) = true) (h2 : ∀ c ∈ L.filter isCode, P c = true) : L.all P = true := by
  refine List.all_eq_true.mpr fun c hc => ?_
  have h := List.all_eq_true.mp h1 c hc
  rcases Bool.eq_false_or_eq_true (isCode c) with hi | hi
  · exact h2 c (List.mem_filter.mpr ⟨hc, hi⟩)
  · simpa [hi] using h
set_option maxRecDepth 65536 in
theorem w_c0 : (Jvm.Cond.code x code maxLocals ret).before args0 about1 = true := code_word (m := ⟨1, 2⟩) (meth := k1m2) (c := k1c2) (by decide +kernel) rfl rfl rfl (by decide +kernel)
set_option maxRecDepth 65536 in
theorem w_c1 : (Jvm.Cond.code ({ cls := "com/example/leeway/leeway/lp/SparseColumn", name := "<init>", desc := "(I)V" } : Jvm.MethodName) prog_87_method_1_code (2 : Nat) (Option.none : Option Jvm.ClassFile.FieldType)).before args0 about1 = true := code_word (m := ⟨2, 0⟩) (meth := k2m0) (c := k2c0) (by decide +kernel) rfl rfl rfl (by decide +kernel)
set_option maxRecDepth 65536 in
theorem w_c2 : (Jvm.Cond.code ({ cls := "java/lang/Object", name := "<init>", desc := "()V" } : Jvm.MethodName) object_method_1_code (1 : Nat) (Option.none : Option Jvm.ClassFile.FieldType)).before args0 about1 = true := code_word (m := ⟨0, 0⟩) (meth := k0m0) (c := k0c0) (by decide +kernel) rfl rfl rfl (by decide +kernel)
set_option maxRecDepth 65536 in
theorem w_c3 : (Jvm.Cond.code ({ cls := "com/example/leeway/leeway/lp/SparseColumn", name := "clear", desc := "()V" } : Jvm.MethodName) prog_87_method_5_code (2 : Nat) (Option.none : Option Jvm.ClassFile.FieldType)).before args0 about1 = true := code_word (m := ⟨2, 4⟩) (meth := k2m4) (c := k2c4) (by decide +kernel) rfl rfl rfl (by decide +kernel)
set_option maxRecDepth 65536 in
theorem w_c4 : (Jvm.Cond.code ({ cls := "com/example/leeway/leeway/lp/SparseColumn", name := "values", desc := "()[D" } : Jvm.MethodName) prog_87_method_2_code (1 : Nat) (Option.some (Jvm.ClassFile.FieldType.array Jvm.ClassFile.FieldType.double))).before args0 about1 = true := code_word (m := ⟨2, 1⟩) (meth := k2m1) (c := k2c1) (by decide +kernel) rfl rfl rfl (by decide +kernel)
set_option maxRecDepth 65536 in
theorem w_c5 : (Jvm.Cond.code ({ cls := "com/example/leeway/leeway/lp/SparseColumn", name := "count", desc := "()I" } : Jvm.MethodName) prog_87_method_4_code (1 : Nat) (Option.some Jvm.ClassFile.FieldType.int)).before args0 about1 = true := code_word (m := ⟨2, 3⟩) (meth := k2m3) (c := k2c3) (by decide +kernel) rfl rfl rfl (by decide +kernel)
set_option maxRecDepth 65536 in
theorem w_c6 : (Jvm.Cond.code ({ cls := "com/example/leeway/leeway/lp/SparseColumn", name := "add", desc := "(ID)V" } : Jvm.MethodName) prog_87_method_6_code (4 : Nat) (Option.none : Option Jvm.ClassFile.FieldType)).before args0 about1 = true := code_word (m := ⟨2, 5⟩) (meth := k2m5) (c := k2c5) (by decide +kernel) rfl rfl rfl (by decide +kernel)
set_option maxRecDepth 65536 in
theorem w_c7 : (Jvm.Cond.code ({ cls := "com/example/leeway/leeway/lp/SparseColumn", name := "rows", desc := "()[I" } : Jvm.MethodName) prog_87_method_3_code (1 : Nat) (Option.some (Jvm.ClassFile.FieldType.array Jvm.ClassFile.FieldType.int))).before args0 about1 = true := code_word (m := ⟨2, 2⟩) (meth := k2m2) (c := k2c2) (by decide +kernel) rfl rfl rfl (by decide +kernel)
set_option maxRecDepth 65536 in
theorem w_c8 : (Jvm.Cond.code ({ cls := "com/example/leeway/leeway/lp/SparseColumnClearPinLaw", name := "zeroUnless", desc := "([DII)Z" } : Jvm.MethodName) method_2_code (3 : Nat) (Option.some Jvm.ClassFile.FieldType.boolean)).before args0 about1 = true := code_word (m := ⟨1, 1⟩) (meth := k1m1) (c := k1c1) (by decide +kernel) rfl rfl rfl (by decide +kernel)
def codes1 : List Jvm.Cond := [Jvm.Cond.code x code maxLocals ret, Jvm.Cond.code ({ cls := "com/example/leeway/leeway/lp/SparseColumn", name := "<init>", desc := "(I)V" } : Jvm.MethodName) prog_87_method_1_code (2 : Nat) (Option.none : Option Jvm.ClassFile.FieldType), Jvm.Cond.code ({ cls := "java/lang/Object", name := "<init>", desc := "()V" } : Jvm.MethodName) object_method_1_code (1 : Nat) (Option.none : Option Jvm.ClassFile.FieldType), Jvm.Cond.code ({ cls := "com/example/leeway/leeway/lp/SparseColumn", name := "clear", desc := "()V" } : Jvm.MethodName) prog_87_method_5_code (2 : Nat) (Option.none : Option Jvm.ClassFile.FieldType), Jvm.Cond.code ({ cls := "com/example/leeway/leeway/lp/SparseColumn", name := "values", desc := "()[D" } : Jvm.MethodName) prog_87_method_2_code (1 : Nat) (Option.some (Jvm.ClassFile.FieldType.array Jvm.ClassFile.FieldType.double)), Jvm.Cond.code ({ cls := "com/example/leeway/leeway/lp/SparseColumn", name := "count", desc := "()I" } : Jvm.MethodName) prog_87_method_4_code (1 : Nat) (Option.some Jvm.ClassFile.FieldType.int), Jvm.Cond.code ({ cls := "com/example/leeway/leeway/lp/SparseColumn", name := "add", desc := "(ID)V" } : Jvm.MethodName) prog_87_method_6_code (4 : Nat) (Option.none : Option Jvm.ClassFile.FieldType), Jvm.Cond.code ({ cls := "com/example/leeway/leeway/lp/SparseColumn", name := "rows", desc := "()[I" } : Jvm.MethodName) prog_87_method_3_code (1 : Nat) (Option.some (Jvm.ClassFile.FieldType.array Jvm.ClassFile.FieldType.int)), Jvm.Cond.code ({ cls := "com/example/leeway/leeway/lp/SparseColumnClearPinLaw", name := "zeroUnless", desc := "([DII)Z" } : Jvm.MethodName) method_2_code (3 : Nat) (Option.some Jvm.ClassFile.FieldType.boolean)]
set_option maxRecDepth 65536 in
theorem codes_eq : words1.filter isCode = codes1 := rfl
theorem w_codes : ∀ c ∈ words1.filter isCode, c.before args0 about1 = true := by
  rw [codes_eq]
  intro c hc
  simp only [codes1, List.mem_cons, List.not_mem_nil, or_false] at hc
  rcases hc with rfl | rfl | rfl | rfl | rfl | rfl | rfl | rfl | rfl
  · exact w_c0
  · exact w_c1
  · exact w_c2
  · exact w_c3
  · exact w_c4
  · exact w_c5
  · exact w_c6
  · exact w_c7
  · exact w_c8
set_option maxRecDepth 65536 in
theorem w_t1 : (words1.take 24).all (fun c => isCode c || c.before args0 about1) = true := by decide +kernel
set_option maxRecDepth 65536 in
theorem w_t2 : ((words1.drop 24).take 24).all (fun c => isCode c || c.before args0 about1) = true := by decide +kernel
set_option maxRecDepth 65536 in
theorem w_t3 : ((words1.drop 24).drop 24).all (fun c => isCode c || c.before args0 about1) = true := by decide +kernel
theorem w_tables : (allAtoms (Jvm.Cond.code x code maxLocals ret :: tables_1)).before args0 about1 = true := by
  rw [allAtoms_all]
  show words1.all (fun c => c.before args0 about1) = true
  refine all_split ?_ w_codes
  rw [← List.take_append_drop 24 words1, List.all_append, w_t1, ← List.take_append_drop 24 (words1.drop 24), List.all_append, w_t2, w_t3]
  rfl
set_option maxRecDepth 65536 in
theorem w_case : (Jvm.Cond.and given_1 narrow_1).before args0 about1 = true := by decide +kernel
theorem w_applies : (headSpec (Jvm.Cond.code x code maxLocals ret :: tables_1) room_1).applies x e0.platform about1 = true :=
  (Spec.applies_iff w_frames).mpr ⟨w_running, w_runnable, w_alone, w_named, w_hears, w_ripe, w_room, w_tables⟩
theorem atStart : AtStart classFile x code maxLocals ret World_1 tables_1 room_1 Calls_1 rest_1 Pre_1 launch0 p0 e0 about1 theMethod args0 below0 :=
  ⟨lists_1, trivial, launch0.admits_env _ _ _, launch0.least_env, fairChoices_fair.cas, fairChoices_fair.clock, w_frames, w_args, w_heap, w_applies, trivial, trivial, w_case⟩
end start1
theorem witness_1 : WitnessClaimed_1 := ⟨start1.p0, start1.e0, start1.about1, start1.theMethod, start1.args0, start1.below0, start1.atStart⟩
end Jvm.Pilot.@@N@@
