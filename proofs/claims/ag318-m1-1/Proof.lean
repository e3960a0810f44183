import JvmDerived
import JvmDerived.Pilot.@@N@@Statement
import JvmDerived.Pilot.@@N@@Code
set_option linter.unusedVariables false
set_option linter.unusedSimpArgs false
namespace Jvm.RoadKit
open Sem ClassFile Op Lib Jvm.Stand Jvm.Free Jvm.LawKit
section Own
variable {p : Program} {l : Launch} {e : Env} {R : Room} {s : State} {m : MethodId} {args : Array Value} {below : List Frame} {meth : Method} {c : Code} {T : State} {locs : List Loc} {cells slots : Nat}
theorem own_ni0 {a : Addr} : a ∉ ([] : List Addr) := List.not_mem_nil
theorem own_niS {a b : Addr} {ws : List Addr} (h : a ≠ b) (r : a ∉ ws) : a ∉ b :: ws := fun q => (List.mem_cons.mp q).elim h r
theorem own_all0 {P : Addr → Prop} : ∀ x ∈ ([] : List Addr), P x := fun _ q => nomatch q
theorem own_allS {P : Addr → Prop} {b : Addr} {ws : List Addr} (h : P b) (r : ∀ x ∈ ws, P x) : ∀ x ∈ b :: ws, P x := fun x q => (List.mem_cons.mp q).elim (fun e => e ▸ h) (r x)
theorem own_lremM {g : JFrame} {target : State} (X : Stand p l e R s m args below meth c T locs cells slots) (hx : p.tables.exec = Jvm.exec) (hg : g.method = m) {x y : Int64} {rest : List Value} (hd : decode c.code g.pc = .ok (.lrem, 1)) (hs : g.stack = .long y :: .long x :: rest) (hy : y ≠ 0)
    (hr : Steps p.tables e below (T.setTop { g with pc := g.pc + 1, stack := .long (x % y) :: rest }) target) : Steps p.tables e below (T.setTop g) target :=
  XS.lrem X.here hx hg hd hs hy (by rw [lrem_mod]; exact hr)
end Own
end Jvm.RoadKit
namespace Jvm.OwnFP
open Jvm.FP Jvm.FP.Core Jvm.Free.Fl
/-- a double's worth, in units of the least positive double -/
def zv (x : UInt64) : Int := zval b64 (val64 x)
/-- x is finite and is the number i / D -/
def Ra (i : Int) (D : Nat) (x : UInt64) : Prop := DFin x ∧ zv x * (D : Int) = i * (one64 : Int)
theorem Ra.fin {i : Int} {D : Nat} {x : UInt64} (h : Ra i D x) : Fin64 x := fin64_core.mpr h.1
theorem Ra.nn {i : Int} {D : Nat} {x : UInt64} (h : Ra i D x) : NoNaN64 x := h.fin.noNaN
theorem Ra.ne_nan {i : Int} {D : Nat} {x : UInt64} (h : Ra i D x) : val64 x ≠ .nan := h.1.ne_nan
theorem oz : (0 : Int) < (one64 : Int) := Int.natCast_pos.mpr one64_pos
theorem nan_of {x : UInt64} (h : NoNaN64 x) : val64 x ≠ .nan := (notNaN_iff x).mp (noNaN64_no.mp h)
theorem mulc {a b c : Int} (hc : c ≠ 0) (h : a * c = b * c) : a = b := Int.eq_of_mul_eq_mul_right hc h
theorem al_scale {z D D' i i' o : Int} (h : z * D = i * o) (e : i * D' = i' * D) : z * D' * D = i' * o * D := by
  calc z * D' * D = z * D * D' := by ac_rfl
    _ = i * o * D' := by rw [h]
    _ = i * D' * o := by ac_rfl
    _ = i' * o * D := by rw [e]; ac_rfl
theorem al_mul {x y v D E i j o : Int} (hx : x * D = i * o) (hy : y * E = j * o) (hv : v * (D * E) = i * j * o) : x * y * (D * E) = v * o * (D * E) := by
  calc x * y * (D * E) = (x * D) * (y * E) := by ac_rfl
    _ = (i * o) * (j * o) := by rw [hx, hy]
    _ = (i * j * o) * o := by ac_rfl
    _ = v * (D * E) * o := by rw [hv]
    _ = v * o * (D * E) := by ac_rfl
theorem al_mulr {x y v D E F i j r o : Int} (hx : x * D = i * o) (hy : y * E = j * o) (hv : v * F = r * o) (h : i * j * F = r * (D * E)) : x * y * D * E * F = v * o * D * E * F := by
  calc x * y * D * E * F = (x * D) * (y * E) * F := by ac_rfl
    _ = (i * j * F) * (o * o) := by rw [hx, hy]; ac_rfl
    _ = (r * o) * o * (D * E) := by rw [h]; ac_rfl
    _ = (v * F) * o * (D * E) := by rw [hv]
    _ = v * o * D * E * F := by ac_rfl
theorem al_div {x y v D E F i j r o : Int} (hx : x * D = i * o) (hy : y * E = j * o) (hv : v * F = r * o) (h : i * E * F = r * (j * D)) : x * o * D * E * F = v * y * D * E * F := by
  calc x * o * D * E * F = (x * D) * (o * E * F) := by ac_rfl
    _ = (i * E * F) * (o * o) := by rw [hx]; ac_rfl
    _ = (r * o) * (j * o) * D := by rw [h]; ac_rfl
    _ = (v * F) * (y * E) * D := by rw [hv, hy]
    _ = v * y * D * E * F := by ac_rfl
theorem al_units {V d P Q : Nat} : V * P * d * Q = (V * (d * Q)) * P := by ac_rfl
theorem al_mag {i P D o : Nat} (h : i ≤ P * D) : i * o ≤ P * o * D := by
  calc i * o ≤ P * D * o := Nat.mul_le_mul_right _ h
    _ = P * o * D := by ac_rfl
theorem rep {i : Int} {D k : Nat} (hi : i.natAbs < 9007199254740992) (hD : D = 2 ^ k) (hk : k ≤ 1000) : ∃ V, Ra i D V := by
  have hc : i.natAbs < 2 ^ b64.p := by rw [show (2 : Nat) ^ b64.p = 9007199254740992 by decide +kernel]; exact hi
  have hq2 : b64.qmax = 971 := by decide
  obtain ⟨c', q', h1, h2⟩ := round_exact good_b64 (decide (i < 0)) (c := i.natAbs) (q := -(k : Int)) hc (by rw [qmin_b64]; omega) (by rw [hq2]; omega)
  refine ⟨of64 (round b64 (.fin (decide (i < 0)) i.natAbs (-(k : Int)))), ⟨_, _, _, by rw [val64_of64 (round_fits good_b64 _), h1]⟩, ?_⟩
  unfold zv
  rw [val64_of64 (round_fits good_b64 _), h1]
  show signed (decide (i < 0)) (inUnits c' q' b64.qmin) * _ = _
  rw [h2]
  unfold inUnits
  have e1 : signed (decide (i < 0)) i.natAbs = i := by unfold signed; by_cases h : i < 0 <;> simp [h] <;> omega
  have e2 : (-(k : Int) - b64.qmin).toNat + k = 1074 := by rw [qmin_b64]; omega
  rw [signed_mul, e1, Int.mul_assoc, hD, ← Int.natCast_mul, ← Nat.pow_add, e2]
  rfl
theorem fin_of {x V : UInt64} (hn : val64 x ≠ .nan) (hV : DFin V) (h : zv x = zv V) : DFin x := by
  cases hx : val64 x with
  | nan => exact absurd hx hn
  | fin s c q => exact ⟨s, c, q, hx⟩
  | inf s =>
    exfalso
    have h1 := hV.zval_lt
    unfold zv zval at h
    rw [hx] at h
    have h2 := congrArg Int.natAbs h
    rw [natAbs_signed, natAbs_signed] at h2
    exact absurd h2.symm (Nat.ne_of_lt h1)
theorem Ra.scale {i i' : Int} {D D' : Nat} {x : UInt64} (h : Ra i D x) (hD : 0 < D) (e : i * (D' : Int) = i' * (D : Int)) : Ra i' D' x := by
  exact ⟨h.1, mulc (c := (D : Int)) (by omega) (al_scale h.2 e)⟩
theorem Ra.same {i i' : Int} {D : Nat} {x : UInt64} (h : Ra i D x) (e : i = i') : Ra i' D x := e ▸ h
theorem Ra.add {i j : Int} {D k : Nat} {x y : UInt64} (hx : Ra i D x) (hy : Ra j D y) (h : (i + j).natAbs < 9007199254740992) (hD : D = 2 ^ k) (hk : k ≤ 1000) : Ra (i + j) D (FP.dadd x y) := by
  obtain ⟨V, hV⟩ := rep h hD hk
  have hD0 : (D : Int) ≠ 0 := by rw [hD]; exact Int.ne_of_gt (Int.natCast_pos.mpr (Nat.two_pow_pos k))
  have hs : zval b64 (val64 x) + zval b64 (val64 y) = zval b64 (val64 V) := mulc hD0 (by
    have a := hx.2; have b := hy.2; have c := hV.2
    unfold zv at a b c
    rw [Int.add_mul, a, b, c, Int.add_mul])
  have hz : zv (Core.dadd x y) = zv V := by
    unfold zv
    rw [val64_dadd]
    exact Int.le_antisymm (sum_le good_b64 hx.1 hy.1 (val64_fits x) (val64_fits y) (val64_fits V) hV.ne_nan (Int.le_of_eq hs)) (sum_ge good_b64 hx.1 hy.1 (val64_fits x) (val64_fits y) (val64_fits V) hV.ne_nan (Int.le_of_eq hs.symm))
  exact ⟨fin_of ((notNaN_iff _).mp (dadd_out hx.1.notNaN hy.1)) hV.1 hz, by show zv (Core.dadd x y) * _ = _; rw [hz, hV.2]⟩
theorem fin_negate {x : UInt64} (h : DFin x) : ∃ s c q, negate (val64 x) = .fin s c q := by
  obtain ⟨s, c, q, h⟩ := h; exact ⟨!s, c, q, by rw [h]; rfl⟩
theorem Ra.sub {i j : Int} {D k : Nat} {x y : UInt64} (hx : Ra i D x) (hy : Ra j D y) (h : (i - j).natAbs < 9007199254740992) (hD : D = 2 ^ k) (hk : k ≤ 1000) : Ra (i - j) D (FP.dsub x y) := by
  obtain ⟨V, hV⟩ := rep h hD hk
  have hD0 : (D : Int) ≠ 0 := by rw [hD]; exact Int.ne_of_gt (Int.natCast_pos.mpr (Nat.two_pow_pos k))
  have hs : zval b64 (val64 x) + zval b64 (negate (val64 y)) = zval b64 (val64 V) := mulc hD0 (by
    have a := hx.2; have b := hy.2; have c := hV.2
    unfold zv at a b c
    rw [zval_negate, Int.add_mul, Int.neg_mul, a, b, c, Int.sub_mul]
    omega)
  have hz : zv (Core.dsub x y) = zv V := by
    unfold zv
    rw [val64_dsub]
    exact Int.le_antisymm (sum_le good_b64 hx.1 (fin_negate hy.1) (val64_fits x) (negate_fits (val64_fits y)) (val64_fits V) hV.ne_nan (Int.le_of_eq hs)) (sum_ge good_b64 hx.1 (fin_negate hy.1) (val64_fits x) (negate_fits (val64_fits y)) (val64_fits V) hV.ne_nan (Int.le_of_eq hs.symm))
  exact ⟨fin_of ((notNaN_iff _).mp (dsub_out hx.1.notNaN hy.1)) hV.1 hz, by show zv (Core.dsub x y) * _ = _; rw [hz, hV.2]⟩
theorem qq : (b64.qmin - 2 * b64.qmin).toNat = (-b64.qmin).toNat := by rw [qmin_b64]; decide
/-- a product, held against a double -/
theorem mul_le {x y V : UInt64} (hx : DFin x) (hy : DFin y) (hV : val64 V ≠ .nan) (h : zv x * zv y ≤ zv V * (one64 : Int)) : zv (Core.dmul x y) ≤ zv V := by
  obtain ⟨s, c, q, ex⟩ := hx
  obtain ⟨t, d, r, ey⟩ := hy
  have fx := val64_fits x; have fy := val64_fits y
  rw [ex] at fx; rw [ey] at fy
  obtain ⟨p1, p2, p3⟩ := product_units fx fy
  unfold zv at h ⊢
  rw [val64_dmul, ex, ey, p1]
  rw [ex, ey] at h
  exact zval_round_le good_b64 (val64_fits V) hV (e0 := 2 * b64.qmin) (by rw [qmin_b64]; decide) p2 (by rw [p3, signed_xor, qq, pow_qmin64]; exact h)
theorem mul_ge {x y V : UInt64} (hx : DFin x) (hy : DFin y) (hV : val64 V ≠ .nan) (h : zv V * (one64 : Int) ≤ zv x * zv y) : zv V ≤ zv (Core.dmul x y) := by
  obtain ⟨s, c, q, ex⟩ := hx
  obtain ⟨t, d, r, ey⟩ := hy
  have fx := val64_fits x; have fy := val64_fits y
  rw [ex] at fx; rw [ey] at fy
  obtain ⟨p1, p2, p3⟩ := product_units fx fy
  unfold zv at h ⊢
  rw [val64_dmul, ex, ey, p1]
  rw [ex, ey] at h
  exact zval_round_ge good_b64 (val64_fits V) hV (e0 := 2 * b64.qmin) (by rw [qmin_b64]; decide) p2 (by rw [p3, signed_xor, qq, pow_qmin64]; exact h)
/-- the product's worth, where it is a double's -/
theorem mul_zv {x y V : UInt64} (hx : DFin x) (hy : DFin y) (hV : val64 V ≠ .nan) (h : zv x * zv y = zv V * (one64 : Int)) : zv (Core.dmul x y) = zv V :=
  Int.le_antisymm (mul_le hx hy hV (Int.le_of_eq h)) (mul_ge hx hy hV (Int.le_of_eq h.symm))
theorem Ra.mul {i j : Int} {D E k : Nat} {x y : UInt64} (hx : Ra i D x) (hy : Ra j E y) (h : (i * j).natAbs < 9007199254740992) (hD : D * E = 2 ^ k) (hk : k ≤ 1000) : Ra (i * j) (D * E) (FP.dmul x y) := by
  obtain ⟨V, hV⟩ := rep h hD hk
  have hD0 : ((D * E : Nat) : Int) ≠ 0 := by rw [hD]; exact Int.ne_of_gt (Int.natCast_pos.mpr (Nat.two_pow_pos k))
  have hv := hV.2
  rw [Int.natCast_mul] at hv hD0
  have hs : zv x * zv y = zv V * (one64 : Int) := mulc hD0 (al_mul hx.2 hy.2 hv)
  have hz : zv (Core.dmul x y) = zv V := mul_zv hx.1 hy.1 hV.ne_nan hs
  exact ⟨fin_of ((notNaN_iff _).mp (dmul_out hx.1 hy.1)) hV.1 hz, by show zv (Core.dmul x y) * _ = _; rw [hz, hV.2]⟩
/-- a product written in its least terms -/
theorem Ra.mulr {i j r : Int} {D E F k : Nat} {x y : UInt64} (hx : Ra i D x) (hy : Ra j E y) (hD : 0 < D) (hE : 0 < E) (hr : r.natAbs < 9007199254740992) (hF : F = 2 ^ k) (hk : k ≤ 1000) (h : i * j * (F : Int) = r * ((D : Int) * (E : Int))) : Ra r F (FP.dmul x y) := by
  obtain ⟨V, hV⟩ := rep hr hF hk
  have hF0 : (F : Int) ≠ 0 := by rw [hF]; exact Int.ne_of_gt (Int.natCast_pos.mpr (Nat.two_pow_pos k))
  have hs : zv x * zv y = zv V * (one64 : Int) := by
    exact mulc (c := (D : Int)) (by omega) (mulc (c := (E : Int)) (by omega) (mulc hF0 (al_mulr hx.2 hy.2 hV.2 h)))
  have hz : zv (Core.dmul x y) = zv V := mul_zv hx.1 hy.1 hV.ne_nan hs
  exact ⟨fin_of ((notNaN_iff _).mp (dmul_out hx.1 hy.1)) hV.1 hz, by show zv (Core.dmul x y) * _ = _; rw [hz, hV.2]⟩
theorem zv_abs (x : UInt64) : (zv x).natAbs = zmag b64 (val64 x) := by unfold zv zval; rw [natAbs_signed]
/-- the quotient's parts -/
theorem div_parts {x y : UInt64} (hx : DFin x) (hy : DFin y) (hz : zv y ≠ 0) : ∃ s t c d q r, val64 x = .fin s c q ∧ val64 y = .fin t d r ∧ 0 < d ∧ b64.qmin ≤ q ∧ b64.qmin ≤ r ∧ zmag b64 (val64 x) = c * 2 ^ (q - b64.qmin).toNat ∧ zmag b64 (val64 y) = d * 2 ^ (r - b64.qmin).toNat ∧ val64 (Core.ddiv x y) = roundRatio b64 (s != t) c d (q - r) := by
  obtain ⟨s, c, q, ex⟩ := hx
  obtain ⟨t, d, r, ey⟩ := hy
  have fx := val64_fits x; have fy := val64_fits y
  rw [ex] at fx; rw [ey] at fy
  have hd : d ≠ 0 := fun h => hz (by unfold zv; rw [ey, h]; simp [zval, zmag, sgn, inUnits, signed])
  refine ⟨s, t, c, d, q, r, ex, ey, Nat.pos_of_ne_zero hd, fx.2.1, fy.2.1, by rw [ex]; rfl, by rw [ey]; rfl, ?_⟩
  rw [val64_ddiv, ex, ey]
  show (if d = 0 then _ else roundRatio b64 (s != t) c d (q - r)) = _
  rw [if_neg hd]
theorem div_units {c d V : Nat} {q r e : Int} (hq : b64.qmin ≤ q) (hr : b64.qmin ≤ r) (h1 : e ≤ b64.qmin) (h2 : e ≤ q - r) :
    inUnits c (q - r) e * 2 ^ (r - b64.qmin).toNat = (c * 2 ^ (q - b64.qmin).toNat * one64) * 2 ^ (b64.qmin - e).toNat ∧
      V * 2 ^ (b64.qmin - e).toNat * d * 2 ^ (r - b64.qmin).toNat = (V * (d * 2 ^ (r - b64.qmin).toNat)) * 2 ^ (b64.qmin - e).toNat := by
  refine ⟨?_, al_units⟩
  have hn : b64.qmin < 0 := by rw [qmin_b64]; decide
  unfold inUnits
  rw [← pow_qmin64, Nat.mul_assoc, Nat.mul_assoc, Nat.mul_assoc, ← Nat.pow_add, ← Nat.pow_add, ← Nat.pow_add]
  congr 2
  omega
theorem div_mag_le {x y V : UInt64} (hx : DFin x) (hy : DFin y) (hz : zv y ≠ 0) (hV : val64 V ≠ .nan) (h : (zv x).natAbs * one64 ≤ (zv V).natAbs * (zv y).natAbs) : (zv (Core.ddiv x y)).natAbs ≤ (zv V).natAbs := by
  obtain ⟨s, t, c, d, q, r, ex, ey, hd, hq, hr, mx, my, hv⟩ := div_parts hx hy hz
  rw [zv_abs, zv_abs, hv]
  rw [zv_abs, zv_abs, zv_abs, mx, my] at h
  refine zmag_roundRatio_le good_b64 hd (val64_fits V) hV (e0 := min b64.qmin (q - r)) (by omega) (by omega) ?_
  obtain ⟨u1, u2⟩ := div_units (c := c) (d := d) (V := zmag b64 (val64 V)) hq hr (e := min b64.qmin (q - r)) (by omega) (by omega)
  refine Nat.le_of_mul_le_mul_right (c := 2 ^ (r - b64.qmin).toNat) ?_ (Nat.two_pow_pos _)
  rw [u1, u2]
  exact Nat.mul_le_mul_right _ h
theorem div_mag_ge {x y V : UInt64} (hx : DFin x) (hy : DFin y) (hz : zv y ≠ 0) (h : (zv V).natAbs * (zv y).natAbs ≤ (zv x).natAbs * one64) : (zv V).natAbs ≤ (zv (Core.ddiv x y)).natAbs := by
  obtain ⟨s, t, c, d, q, r, ex, ey, hd, hq, hr, mx, my, hv⟩ := div_parts hx hy hz
  rw [zv_abs, zv_abs, hv]
  rw [zv_abs, zv_abs, zv_abs, mx, my] at h
  refine zmag_roundRatio_ge good_b64 hd (val64_fits V) (e0 := min b64.qmin (q - r)) (by omega) (by omega) ?_
  obtain ⟨u1, u2⟩ := div_units (c := c) (d := d) (V := zmag b64 (val64 V)) hq hr (e := min b64.qmin (q - r)) (by omega) (by omega)
  refine Nat.le_of_mul_le_mul_right (c := 2 ^ (r - b64.qmin).toNat) ?_ (Nat.two_pow_pos _)
  rw [u1, u2]
  exact Nat.mul_le_mul_right _ h
theorem zv_sgn (x : UInt64) : zv x = signed (sgn (val64 x)) (zv x).natAbs := by rw [zv_abs]; rfl
theorem div_sgn {x y : UInt64} (hx : DFin x) (hy : DFin y) (hz : zv y ≠ 0) : sgn (val64 (Core.ddiv x y)) = (sgn (val64 x) != sgn (val64 y)) := by
  obtain ⟨s, t, c, d, q, r, ex, ey, -, -, -, -, -, hv⟩ := div_parts hx hy hz
  rw [hv, sgn_roundRatio, ex, ey]; rfl
theorem sgn_pos {x : UInt64} (h : 0 < zv x) : sgn (val64 x) = false := by
  rw [zv_sgn] at h
  cases hs : sgn (val64 x) with
  | false => rfl
  | true => rw [hs] at h; simp [signed] at h; omega
theorem div_nonneg {x y : UInt64} (hx : DFin x) (hy : DFin y) (h1 : 0 < zv x) (h2 : 0 < zv y) : zv (Core.ddiv x y) = ((zv (Core.ddiv x y)).natAbs : Int) := by
  have h := div_sgn hx hy (Int.ne_of_gt h2)
  rw [sgn_pos h1, sgn_pos h2] at h
  rw [zv_sgn (Core.ddiv x y), h]; simp [signed]
theorem div_ge {x y V : UInt64} (hx : DFin x) (hy : DFin y) (h1 : 0 < zv x) (h2 : 0 < zv y) (hV : 0 ≤ zv V) (h : zv V * zv y ≤ zv x * (one64 : Int)) : zv V ≤ zv (Core.ddiv x y) := by
  have k : (zv V).natAbs * (zv y).natAbs ≤ (zv x).natAbs * one64 := by
    have e1 : ((zv V).natAbs : Int) = zv V := by omega
    have e2 : ((zv y).natAbs : Int) = zv y := by omega
    have e3 : ((zv x).natAbs : Int) = zv x := by omega
    refine Int.ofNat_le.mp ?_
    rw [Int.natCast_mul, Int.natCast_mul, e1, e2, e3]; exact h
  have := div_mag_ge hx hy (Int.ne_of_gt h2) k
  rw [div_nonneg hx hy h1 h2]; omega
theorem div_le {x y V : UInt64} (hx : DFin x) (hy : DFin y) (h1 : 0 < zv x) (h2 : 0 < zv y) (hn : val64 V ≠ .nan) (hV : 0 ≤ zv V) (h : zv x * (one64 : Int) ≤ zv V * zv y) : zv (Core.ddiv x y) ≤ zv V := by
  have k : (zv x).natAbs * one64 ≤ (zv V).natAbs * (zv y).natAbs := by
    have e1 : ((zv V).natAbs : Int) = zv V := by omega
    have e2 : ((zv y).natAbs : Int) = zv y := by omega
    have e3 : ((zv x).natAbs : Int) = zv x := by omega
    refine Int.ofNat_le.mp ?_
    rw [Int.natCast_mul, Int.natCast_mul, e1, e2, e3]; exact h
  have := div_mag_le hx hy (Int.ne_of_gt h2) hn k
  rw [div_nonneg hx hy h1 h2]; omega
theorem signed_inj {s t : Bool} {n : Nat} (hn : n ≠ 0) (h : signed s n = signed t n) : s = t := by
  cases s <;> cases t <;> simp [signed] at h ⊢ <;> omega
theorem xor_back {s t v : Bool} (h : s = (v != t)) : (s != t) = v := by cases s <;> cases t <;> cases v <;> simp_all
/-- the quotient's worth, where it is a double's -/
theorem div_zv {x y V : UInt64} (hx : DFin x) (hy : DFin y) (hz : zv y ≠ 0) (hV : DFin V) (h : zv x * (one64 : Int) = zv V * zv y) : zv (Core.ddiv x y) = zv V := by
  have ha : (zv x).natAbs * one64 = (zv V).natAbs * (zv y).natAbs := by
    have := congrArg Int.natAbs h
    rwa [Int.natAbs_mul, Int.natAbs_mul, Int.natAbs_natCast] at this
  have hm : (zv (Core.ddiv x y)).natAbs = (zv V).natAbs := Nat.le_antisymm (div_mag_le hx hy hz hV.ne_nan (Nat.le_of_eq ha)) (div_mag_ge hx hy hz (Nat.le_of_eq ha.symm))
  rw [zv_sgn (Core.ddiv x y), hm, div_sgn hx hy hz]
  by_cases h0 : (zv V).natAbs = 0
  · rw [h0, Int.natAbs_eq_zero.mp h0]; exact signed_zero _
  · have k : signed (sgn (val64 x)) ((zv x).natAbs * one64) = zv x * (one64 : Int) := by rw [signed_mul, ← zv_sgn]
    rw [ha] at k
    have k2 : signed (sgn (val64 V) != sgn (val64 y)) ((zv V).natAbs * (zv y).natAbs) = zv V * zv y := by rw [signed_xor, ← zv_sgn, ← zv_sgn]
    have e := xor_back (signed_inj (n := (zv V).natAbs * (zv y).natAbs) (Nat.mul_ne_zero h0 (fun q => hz (Int.natAbs_eq_zero.mp q))) (k.trans (h.trans k2.symm)))
    rw [e, ← zv_sgn]
theorem Ra.div {i j r : Int} {D E F k : Nat} {x y : UInt64} (hx : Ra i D x) (hy : Ra j E y) (hD : 0 < D) (hE : 0 < E) (hj : j ≠ 0) (hr : r.natAbs < 9007199254740992) (hF : F = 2 ^ k) (hk : k ≤ 1000) (h : i * (E : Int) * (F : Int) = r * (j * (D : Int))) : Ra r F (FP.ddiv x y) := by
  obtain ⟨V, hV⟩ := rep hr hF hk
  have hF0 : (F : Int) ≠ 0 := by rw [hF]; exact Int.ne_of_gt (Int.natCast_pos.mpr (Nat.two_pow_pos k))
  have hy0 : zv y ≠ 0 := fun q => by
    have := hy.2; rw [q, Int.zero_mul] at this
    exact (Int.mul_ne_zero hj (Int.ne_of_gt oz)) this.symm
  have hs : zv x * (one64 : Int) = zv V * zv y := by
    exact mulc (c := (D : Int)) (by omega) (mulc (c := (E : Int)) (by omega) (mulc hF0 (al_div hx.2 hy.2 hV.2 h)))
  have hz : zv (Core.ddiv x y) = zv V := div_zv hx.1 hy.1 hy0 hV.1 hs
  have hyz : ¬ DZero y := fun q => hy0 (by unfold zv; exact DZero.zval q)
  exact ⟨fin_of ((notNaN_iff _).mp (ddiv_out hx.1.notNaN hy.1 hyz)) hV.1 hz, by show zv (Core.ddiv x y) * _ = _; rw [hz, hV.2]⟩
/-- two quotients of one ratio are of one worth -/
theorem div_alike {x y x' y' : UInt64} (hx : DFin x) (hy : DFin y) (hx' : DFin x') (hy' : DFin y') (hz : zv y ≠ 0) (hz' : zv y' ≠ 0) (h : zv x * zv y' = zv x' * zv y) : zv (Core.ddiv x y) = zv (Core.ddiv x' y') := by
  have ha : (zv x).natAbs * (zv y').natAbs = (zv x').natAbs * (zv y).natAbs := by
    have := congrArg Int.natAbs h
    rwa [Int.natAbs_mul, Int.natAbs_mul] at this
  have hsg := div_sgn hx hy hz
  have hsg' := div_sgn hx' hy' hz'
  obtain ⟨s, t, c, d, q, r, ex, ey, hd, hq, hr, mx, my, hv⟩ := div_parts hx hy hz
  obtain ⟨s', t', c', d', q', r', ex', ey', hd', hq', hr', mx', my', hv'⟩ := div_parts hx' hy' hz'
  have hm : (zv (Core.ddiv x y)).natAbs = (zv (Core.ddiv x' y')).natAbs := by
    rw [zv_abs, zv_abs, zv_abs, zv_abs, mx, my, mx', my'] at ha
    rw [zv_abs, zv_abs, hv, hv']
    have e : roundRatio b64 (s != t) c d (q - r) = roundRatio b64 (s != t) c' d' (q' - r') := by
      refine roundRatio_congr hd hd' ?_
      have g1 : ∃ T, (q - b64.qmin).toNat + (r' - b64.qmin).toNat = (q - r - (q' - r')).toNat + T ∧ (q' - b64.qmin).toNat + (r - b64.qmin).toNat = (q' - r' - (q - r)).toNat + T := ⟨(min ((q - b64.qmin) + (r' - b64.qmin)) ((q' - b64.qmin) + (r - b64.qmin))).toNat, by omega, by omega⟩
      obtain ⟨T, g1, g2⟩ := g1
      refine Nat.eq_of_mul_eq_mul_right (Nat.two_pow_pos T) ?_
      calc c * d' * 2 ^ (q - r - (q' - r')).toNat * 2 ^ T = (c * 2 ^ (q - b64.qmin).toNat) * (d' * 2 ^ (r' - b64.qmin).toNat) := by rw [Nat.mul_assoc, ← Nat.pow_add, ← g1, Nat.pow_add]; ac_rfl
        _ = (c' * 2 ^ (q' - b64.qmin).toNat) * (d * 2 ^ (r - b64.qmin).toNat) := ha
        _ = c' * d * 2 ^ (q' - r' - (q - r)).toNat * 2 ^ T := by rw [Nat.mul_assoc (c' * d), ← Nat.pow_add, ← g2, Nat.pow_add]; ac_rfl
    rw [e]
    rcases roundRatio_cases b64 (s != t) c' d' (q' - r') with ⟨a, b, g⟩ | g <;> rcases roundRatio_cases b64 (s' != t') c' d' (q' - r') with ⟨a', b', g'⟩ | g'
    all_goals first
      | (have := negate_roundRatio b64 (s' != t') c' d' (q' - r')
         by_cases w : (s != t) = (s' != t')
         · rw [w]
         · rw [show (s != t) = !(s' != t') by cases s <;> cases t <;> cases s' <;> cases t' <;> simp_all, ← this]
           rw [g']; rfl)
  rw [zv_sgn (Core.ddiv x y), zv_sgn (Core.ddiv x' y'), hm, hsg, hsg']
  by_cases h0 : (zv (Core.ddiv x' y')).natAbs = 0
  · rw [h0, signed_zero, signed_zero]
  · by_cases hx0 : (zv x').natAbs = 0
    · exfalso; apply h0
      have := div_mag_le (V := (0 : UInt64)) hx' hy' hz' (by rw [val64_zero]; exact Datum.noConfusion) (by rw [hx0, Nat.zero_mul]; exact Nat.zero_le _)
      have z0 : zv 0 = 0 := zval64_zero
      rw [z0] at this; simpa using this
    · congr 1
      have hy1 : (zv y).natAbs ≠ 0 := fun q => hz (Int.natAbs_eq_zero.mp q)
      have k : signed (sgn (val64 x) != sgn (val64 y')) ((zv x').natAbs * (zv y).natAbs) = signed (sgn (val64 x') != sgn (val64 y)) ((zv x').natAbs * (zv y).natAbs) := by
        rw [← ha, signed_xor, ha, signed_xor, ← zv_sgn, ← zv_sgn, ← zv_sgn, ← zv_sgn]; exact h
      have k2 := signed_inj (Nat.mul_ne_zero hx0 hy1) k
      revert k2
      generalize sgn (val64 x) = a; generalize sgn (val64 y) = b; generalize sgn (val64 x') = a'; generalize sgn (val64 y') = b'
      cases a <;> cases b <;> cases a' <;> cases b' <;> simp
/-- comparisons -/
theorem cv_lt {x y : UInt64} (nx : val64 x ≠ .nan) (ny : val64 y ≠ .nan) (h : zv x < zv y) (o : Jvm.ClassFile.CmpOp) : Jvm.Op.cmpValue (FP.dcmp x y) o = -1 := by
  rw [show FP.dcmp x y = some .lt from dcmp_lt.mpr ⟨nx, ny, h⟩]; cases o <;> rfl
theorem cv_eq {x y : UInt64} (nx : val64 x ≠ .nan) (ny : val64 y ≠ .nan) (h : zv x = zv y) (o : Jvm.ClassFile.CmpOp) : Jvm.Op.cmpValue (FP.dcmp x y) o = 0 := by
  rw [show FP.dcmp x y = some .eq from dcmp_eq.mpr ⟨nx, ny, h⟩]; cases o <;> rfl
theorem cv_gt {x y : UInt64} (nx : val64 x ≠ .nan) (ny : val64 y ≠ .nan) (h : zv y < zv x) (o : Jvm.ClassFile.CmpOp) : Jvm.Op.cmpValue (FP.dcmp x y) o = 1 := by
  rw [show FP.dcmp x y = some .gt from dcmp_gt.mpr ⟨nx, ny, h⟩]; cases o <;> rfl
theorem cv_le {x y : UInt64} (nx : val64 x ≠ .nan) (ny : val64 y ≠ .nan) (h : zv x ≤ zv y) (o : Jvm.ClassFile.CmpOp) : ¬ (0 : Int32) < Jvm.Op.cmpValue (FP.dcmp x y) o := by
  rcases Int.lt_or_eq_of_le h with q | q
  · rw [cv_lt nx ny q]; decide
  · rw [cv_eq nx ny q]; decide
theorem cv_ge {x y : UInt64} (nx : val64 x ≠ .nan) (ny : val64 y ≠ .nan) (h : zv y ≤ zv x) (o : Jvm.ClassFile.CmpOp) : ¬ Jvm.Op.cmpValue (FP.dcmp x y) o < (0 : Int32) := by
  rcases Int.lt_or_eq_of_le h with q | q
  · rw [cv_gt nx ny q]; decide
  · rw [cv_eq nx ny q.symm]; decide
theorem cv_lt' {x y : UInt64} (nx : val64 x ≠ .nan) (ny : val64 y ≠ .nan) (h : zv x < zv y) (o : Jvm.ClassFile.CmpOp) : Jvm.Op.cmpValue (FP.dcmp x y) o < (0 : Int32) := by rw [cv_lt nx ny h]; decide
theorem cv_gt' {x y : UInt64} (nx : val64 x ≠ .nan) (ny : val64 y ≠ .nan) (h : zv y < zv x) (o : Jvm.ClassFile.CmpOp) : (0 : Int32) < Jvm.Op.cmpValue (FP.dcmp x y) o := by rw [cv_gt nx ny h]; decide
theorem zv_lt {i j : Int} {D : Nat} {x y : UInt64} (hx : Ra i D x) (hy : Ra j D y) (hD : 0 < D) (h : i < j) : zv x < zv y := by
  refine Int.lt_of_mul_lt_mul_right (a := (D : Int)) ?_ (by omega)
  rw [hx.2, hy.2]; exact Int.mul_lt_mul_of_pos_right h oz
theorem zv_eq {i j : Int} {D : Nat} {x y : UInt64} (hx : Ra i D x) (hy : Ra j D y) (hD : 0 < D) (h : i = j) : zv x = zv y :=
  mulc (c := (D : Int)) (by omega) (by rw [hx.2, hy.2, h])
theorem Ra.lt {i j : Int} {D : Nat} {x y : UInt64} (hx : Ra i D x) (hy : Ra j D y) (hD : 0 < D) (h : i < j) (o : Jvm.ClassFile.CmpOp) : Jvm.Op.cmpValue (FP.dcmp x y) o = -1 := cv_lt hx.ne_nan hy.ne_nan (zv_lt hx hy hD h) o
theorem Ra.gt {i j : Int} {D : Nat} {x y : UInt64} (hx : Ra i D x) (hy : Ra j D y) (hD : 0 < D) (h : j < i) (o : Jvm.ClassFile.CmpOp) : Jvm.Op.cmpValue (FP.dcmp x y) o = 1 := cv_gt hx.ne_nan hy.ne_nan (zv_lt hy hx hD h) o
theorem Ra.eq {i j : Int} {D : Nat} {x y : UInt64} (hx : Ra i D x) (hy : Ra j D y) (hD : 0 < D) (h : i = j) (o : Jvm.ClassFile.CmpOp) : Jvm.Op.cmpValue (FP.dcmp x y) o = 0 := cv_eq hx.ne_nan hy.ne_nan (zv_eq hx hy hD h) o
theorem zv_le {i j : Int} {D : Nat} {x y : UInt64} (hx : Ra i D x) (hy : Ra j D y) (hD : 0 < D) (h : i ≤ j) : zv x ≤ zv y := by
  rcases Int.lt_or_eq_of_le h with q | q
  · exact Int.le_of_lt (zv_lt hx hy hD q)
  · exact Int.le_of_eq (zv_eq hx hy hD q)
theorem Ra.le {i j : Int} {D : Nat} {x y : UInt64} (hx : Ra i D x) (hy : Ra j D y) (hD : 0 < D) (h : i ≤ j) (o : Jvm.ClassFile.CmpOp) : ¬ (0 : Int32) < Jvm.Op.cmpValue (FP.dcmp x y) o := cv_le hx.ne_nan hy.ne_nan (zv_le hx hy hD h) o
theorem Ra.ge {i j : Int} {D : Nat} {x y : UInt64} (hx : Ra i D x) (hy : Ra j D y) (hD : 0 < D) (h : j ≤ i) (o : Jvm.ClassFile.CmpOp) : ¬ Jvm.Op.cmpValue (FP.dcmp x y) o < (0 : Int32) := cv_ge hx.ne_nan hy.ne_nan (zv_le hy hx hD h) o
theorem Ra.lt' {i j : Int} {D : Nat} {x y : UInt64} (hx : Ra i D x) (hy : Ra j D y) (hD : 0 < D) (h : i < j) (o : Jvm.ClassFile.CmpOp) : Jvm.Op.cmpValue (FP.dcmp x y) o < (0 : Int32) := cv_lt' hx.ne_nan hy.ne_nan (zv_lt hx hy hD h) o
theorem Ra.gt' {i j : Int} {D : Nat} {x y : UInt64} (hx : Ra i D x) (hy : Ra j D y) (hD : 0 < D) (h : j < i) (o : Jvm.ClassFile.CmpOp) : (0 : Int32) < Jvm.Op.cmpValue (FP.dcmp x y) o := cv_gt' hx.ne_nan hy.ne_nan (zv_lt hy hx hD h) o
theorem Ra.of_int {i : Int} {x : UInt64} (h : DInt i x) (hf : DFin x) : Ra i 1 x := ⟨hf, by show zval b64 (val64 x) * _ = _; rw [DInt_zval h]; show _ * (1 : Int) = _; rw [Int.mul_one]⟩
theorem Ra.i2d (a : Int32) : Ra a.toInt 1 (FP.i2d a) := Ra.of_int (i2d_int a) (Core.i2d_fin a)
theorem Ra.l2d {a : Int64} (h : a.toInt.natAbs ≤ 9007199254740992) : Ra a.toInt 1 (FP.l2d a) := Ra.of_int (l2d_int h) (Core.l2d_fin a)
/-- a written constant -/
theorem Ra.lit {x : UInt64} {s : Bool} {c D n : Nat} {q i : Int} {k : Nat} (h : val64 x = .fin s c q) (hD : D = 2 ^ k) (hq : q = -((k + n : Nat) : Int)) (hk : k + n ≤ 1074) (e : signed s c = i * ((2 ^ n : Nat) : Int)) : Ra i D x := by
  refine ⟨⟨s, c, q, h⟩, ?_⟩
  unfold zv
  rw [h]
  show signed s (inUnits c q b64.qmin) * _ = _
  unfold inUnits
  have e2 : n + (q - b64.qmin).toNat + k = 1074 := by rw [qmin_b64]; omega
  rw [signed_mul, e, hD, Int.mul_assoc, Int.mul_assoc, ← Int.natCast_mul, ← Int.natCast_mul, ← Nat.pow_add, ← Nat.pow_add, ← Nat.add_assoc, e2]
  rfl
theorem zv_neg (x : UInt64) : zv (FP.dneg x) = -zv x := by unfold zv; rw [Jvm.FP.val64_dneg, zval_negate]
theorem Ra.neg {i : Int} {D : Nat} {x : UInt64} (h : Ra i D x) : Ra (-i) D (FP.dneg x) := by
  obtain ⟨⟨s, c, q, ex⟩, e⟩ := h
  exact ⟨⟨!s, c, q, by rw [Jvm.FP.val64_dneg, ex]; rfl⟩, by rw [zv_neg, Int.neg_mul, e, Int.neg_mul]⟩
/-- exact products of longs -/
theorem lmul_of {x y : Int64} {a b : Int} (hx : x.toInt = a) (hy : y.toInt = b) (h1 : -9223372036854775808 ≤ a * b) (h2 : a * b < 9223372036854775808) : (x * y).toInt = a * b := by
  rw [int64_mul (by rw [hx, hy]; exact h1) (by rw [hx, hy]; exact h2), hx, hy]
theorem ladd_of {x y : Int64} {a b : Int} (hx : x.toInt = a) (hy : y.toInt = b) (h1 : -9223372036854775808 ≤ a + b) (h2 : a + b < 9223372036854775808) : (x + y).toInt = a + b := by
  rw [int64_add (by rw [hx, hy]; exact h1) (by rw [hx, hy]; exact h2), hx, hy]
theorem lsub_of {x y : Int64} {a b : Int} (hx : x.toInt = a) (hy : y.toInt = b) (h1 : -9223372036854775808 ≤ a - b) (h2 : a - b < 9223372036854775808) : (x - y).toInt = a - b := by
  rw [int64_sub (by rw [hx, hy]; exact h1) (by rw [hx, hy]; exact h2), hx, hy]
theorem lneg_of {x : Int64} {a : Int} (hx : x.toInt = a) (h1 : -9223372036854775808 < a) : (-x).toInt = -a := by
  rw [int64_neg (by rw [hx]; exact h1), hx]
theorem i2l_of {x : Int32} {a : Int} (hx : x.toInt = a) : x.toInt64.toInt = a := by rw [Int32.toInt_toInt64, hx]
theorem fin_of_le {x V : UInt64} (hn : val64 x ≠ .nan) (hV : DFin V) (h : (zv x).natAbs ≤ (zv V).natAbs) : DFin x := by
  cases hx : val64 x with
  | nan => exact absurd hx hn
  | fin s c q => exact ⟨s, c, q, hx⟩
  | inf s =>
    exfalso
    have h1 := hV.zval_lt
    rw [zv_abs, zv_abs, hx] at h
    exact absurd (Nat.lt_of_le_of_lt h h1) (Nat.lt_irrefl _)
/-- a bound on the worth bounds the bits -/
theorem mag_of {x : UInt64} {n : Nat} (hx : DFin x) (h : (zv x).natAbs ≤ 2 ^ n * one64) : Mag64 (n + 1024) x := by
  have z := zmag_bits hx.ne_nan
  rw [zv_abs, z] at h
  have hs : unitsOf b64 ((n + 1024) * b64.tails) = b64.tails * 2 ^ (n + 1024 - 1) := unitsOf_start (by omega)
  have ho : 2 ^ n * one64 < b64.tails * 2 ^ (n + 1024 - 1) := by
    rw [tails_b64, ← pow_qmin64, ← Nat.pow_add, ← Nat.pow_add, qmin_b64]
    exact Nat.pow_lt_pow_right (by decide) (by omega)
  have hl : unitsOf b64 (x.toNat % 2 ^ 63) < unitsOf b64 ((n + 1024) * b64.tails) := by rw [hs]; exact Nat.lt_of_le_of_lt h ho
  have hb := unitsOf_lt_iff.mp hl
  rw [tails_b64] at hb
  unfold Mag64
  exact hb
theorem Ra.mag {i : Int} {D n : Nat} {x : UInt64} (h : Ra i D x) (hD : 0 < D) (hi : i.natAbs ≤ 2 ^ n * D) : Mag64 (n + 1024) x := by
  refine mag_of h.1 (Nat.le_of_mul_le_mul_right (c := D) ?_ hD)
  have e := congrArg Int.natAbs h.2
  rw [Int.natAbs_mul, Int.natAbs_mul, Int.natAbs_natCast, Int.natAbs_natCast] at e
  rw [e]
  exact al_mag hi
theorem ra_zero : Ra 0 1 (0 : UInt64) := ⟨⟨_, _, _, val64_zero⟩, by rw [show zv 0 = 0 from zval64_zero, Int.zero_mul, Int.zero_mul]⟩
theorem ra_one : Ra 1 1 (4607182418800017408 : UInt64) := Ra.lit (s := false) (c := 4503599627370496) (q := -52) (k := 0) (n := 52) (by decide +kernel) rfl (by decide) (by decide) (by decide)
theorem ra_two : Ra 2 1 (4611686018427387904 : UInt64) := Ra.lit (s := false) (c := 4503599627370496) (q := -51) (k := 0) (n := 51) (by decide +kernel) rfl (by decide) (by decide) (by decide)
end Jvm.OwnFP
namespace Jvm.Pilot.@@N@@
open Jvm Jvm.ClassFile Sem Op Lib Jvm.Free Jvm.Stand Jvm.LawKit Jvm.RoadKit Bundle Jvm.Pilot.@@N@@.Jvm.D
theorem d3_0 : decode jdk_117_method_8_code 0 = .ok (.dload_n 0, 1) := by decide +kernel
theorem d3_1 : decode jdk_117_method_8_code 1 = .ok (.invokestatic 38, 3) := by decide +kernel
theorem pd_0 : parseMethodDescriptor "(D)D" = some ⟨[.double], some .double⟩ := by decide +kernel
theorem d3_4 : decode jdk_117_method_8_code 4 = .ok (.ldc2_w 111, 3) := by decide +kernel
theorem d3_7 : decode jdk_117_method_8_code 7 = .ok (.dcmp .g, 1) := by decide +kernel
theorem d3_8 : decode jdk_117_method_8_code 8 = .ok (.ifCond .gt 7, 3) := by decide +kernel
theorem d3_11 : decode jdk_117_method_8_code 11 = .ok (.iconst 1, 1) := by decide +kernel
theorem d3_12 : decode jdk_117_method_8_code 12 = .ok (.goto 4, 3) := by decide +kernel
theorem d3_16 : decode jdk_117_method_8_code 16 = .ok (.ireturn, 1) := by decide +kernel
theorem pn_java_lang_Double : plainName "java/lang/Double" = true := by first | (simp [plainName, overriddenIn]; done) | decide +kernel
theorem ef_3_D (m : MethodId) (x0 : UInt64) : entryFrame m #[(.double x0)] 2 = mkF m 0 #[.val (.double x0), .second] [] := by first | (simp [entryFrame, mkF, argsToLocals, Value.category]; done) | rfl
def Q_rm3 (Z : State) (d0 : UInt64) (h0 : Heap) (n0 : Nat) (v : Option Value) (h : Heap) (L : List Loc) : Prop := v = some (.int (1 : Int32)) ∧ Fr n0 L ∧ h = h0
set_option maxRecDepth 65536 in
set_option maxHeartbeats 40000000 in
theorem rm3 (l : Launch) (Z : State) (a0 : Array Value) (hw : ∀ d ∈ tables_1, d.before a0 Z = true) (ws : List Jvm.Cond) (d0 : UInt64) (h0 : Heap) (n0 : Nat) (Z0 : n0 ≤ h0.size) (nna1 : Jvm.Free.Fl.NoNaN64 d0) (hd7 : (cmpValue (FP.dcmp (d0 &&& 0x7fffffffffffffff) (9218868437227405311 : UInt64)) .g) = (-1 : Int32)) :
    MetFree l (⟨"java/lang/Double", "isFinite", "(D)Z"⟩ : MethodName) (head1 (Jvm.Cond.code (⟨"java/lang/Double", "isFinite", "(D)Z"⟩ : MethodName) jdk_117_method_8_code 2 (some .boolean) :: ws) ({ frames := 1, cells := 0, slots := 0, locals := 13 } : Room)) (fun a U => a = #[(.double d0)] ∧ Z.Warmed39 U.vm ∧ U.heap = h0) (fun _ _ _ _ _ => True) (fun _ U o U' => ∃ v L, o = .returned v ∧ Q_rm3 Z d0 h0 n0 v U'.heap L ∧ FrameEnd U o U' L ({ frames := 1, cells := 0, slots := 0, locals := 13 } : Room).cells ({ frames := 1, cells := 0, slots := 0, locals := 13 } : Room).slots) := by
  refine MetFree.of_bodySF (plainFor_of_name pn_java_lang_Double) hisR ?_
  intro p e s m args below meth c s₁ Bd hml0 hP hK
  obtain ⟨rfl, hZ, hh⟩ := hP
  have hx := Bd.exec
  have hby := Bd.bytes
  have hml : c.maxLocals = 2 := hml0
  have hown : s.vm.findClass "java/lang/Double" = some m.cls := findClass_of_methodNamed Bd.named
  have hnm := (name_of_methodNamed Bd.named Bd.method).1
  have X0 : Stand p l e ({ frames := 1, cells := 0, slots := 0, locals := 13 } : Room) s m #[(.double d0)] below meth c s₁ [] 0 0 := Stand.of_body Bd
  have e0 : s₁.heap = h0 := by rw [← hh, Bd.state]; rfl
  have N0 := Fr.nil n0
  have pre0 : ∀ t, Steps p.tables e below (s₁.setTop (mkF m 0 #[.val (.double d0), .second] [])) t → Steps p.tables e below (s₁.setTop (entryFrame m #[(.double d0)] 2)) t := fun t k => castTop (ef_3_D m d0) k
  obtain ⟨T1, X1, e1, st1⟩ := natS X0 hx hZ (y := (⟨"java/lang/Math", "abs", "(D)D"⟩ : MethodName)) hown (hw _ (List.mem_of_getElem? (i := 16) rfl)) (hw _ (List.mem_of_getElem? (i := 17) rfl)) (hw _ (List.mem_of_getElem? (i := 18) rfl)) (hw _ (List.mem_of_getElem? (i := 19) rfl)) (by decide) e0 (W := 0) (F := fun a' => a' = #[(.double d0)] ∧ Jvm.Free.Fl.NoNaN64 d0) (val := .double (d0 &&& 0x7fffffffffffffff)) (fun c4 => Jvm.Free.Fl.Abs.absD_pays d0 c4 (by decide) (by decide)) (g := (mkF m 1 #[.val (.double d0), .second] [(.double d0)])) rfl (by rw [hml]; rfl) (argsL := [(.double d0)]) (rest := []) (lenOf pd_0 rfl) rfl (by show 2 * 0 + _ ≤ _; exact Nat.le_of_eq rfl) (hb hby d3_1) (by decide) (by decide) ⟨rfl, nna1⟩ rfl
  obtain ⟨fs, hr, hrun, hended, hW, hsame⟩ := X1.leave (v := some (.int (1 : Int32))) (fun h => by rw [Bd.returns] at h; cases h)
  refine ⟨_, _, pre0 _ ?_, hrun, hended, _, _, rfl, ?_, ⟨_, rfl⟩, hW, hsame.mono (by decide) (by decide)⟩
  · show Steps p.tables e below (s₁.setTop (mkF m 0 #[.val (.double d0), .second] [])) _
    refine XS.dloadN X0.here hx rfl (hb hby d3_0) rfl ?_
    show Steps p.tables e below (s₁.setTop (mkF m 1 #[.val (.double d0), .second] [(.double d0)])) _
    refine st1 _ ?_
    show Steps p.tables e below (T1.setTop (mkF m 4 #[.val (.double d0), .second] [(.double (d0 &&& 0x7fffffffffffffff))])) _
    refine X1.ldc2DoubleC hx hown (mvT hZ (hw _ (List.mem_of_getElem? (i := 20) rfl))) (g := (mkF m 4 #[.val (.double d0), .second] [(.double (d0 &&& 0x7fffffffffffffff))])) rfl (hb hby d3_4) _ ?_
    show Steps p.tables e below (T1.setTop (mkF m 7 #[.val (.double d0), .second] [(.double (9218868437227405311 : UInt64)), (.double (d0 &&& 0x7fffffffffffffff))])) _
    refine XS.dcmpS X1.here hx rfl (hb hby d3_7) rfl (v := (-1 : Int32)) hd7 ?_
    show Steps p.tables e below (T1.setTop (mkF m 8 #[.val (.double d0), .second] [(.int (-1 : Int32))])) _
    refine XS.ifNo X1.here hx rfl (hb hby d3_8) rfl ((if0 _ _).trans (flt (by decide : ¬ ((0 : Int32) < (-1 : Int32)))).2.2.1) ?_
    show Steps p.tables e below (T1.setTop (mkF m 11 #[.val (.double d0), .second] [])) _
    refine XS.iconst X1.here hx rfl (hb hby d3_11) ?_
    show Steps p.tables e below (T1.setTop (mkF m 12 #[.val (.double d0), .second] [(.int (1 : Int32))])) _
    refine XS.goto X1.here hx rfl (pc0 := 12) (pc' := 16) rfl (hb hby d3_12) (by decide) (by decide) ?_
    show Steps p.tables e below (T1.setTop (mkF m 16 #[.val (.double d0), .second] [(.int (1 : Int32))])) _
    exact retN X1 hx (t := .boolean) Bd.returns (by simp) (hb hby d3_16) hr
  · show Q_rm3 Z d0 h0 n0 _ T1.heap _
    rw [e1]
    exact ⟨rfl, N0, rfl⟩
theorem d1_0 : decode prog_29_method_1_code 0 = .ok (.aload_n 0, 1) := by decide +kernel
theorem d1_1 : decode prog_29_method_1_code 1 = .ok (.invokespecial 1, 3) := by decide +kernel
theorem d1_4 : decode prog_29_method_1_code 4 = .ok (.dload_n 1, 1) := by decide +kernel
theorem d1_5 : decode prog_29_method_1_code 5 = .ok (.dconst 0, 1) := by decide +kernel
theorem d1_6 : decode prog_29_method_1_code 6 = .ok (.dcmp .l, 1) := by decide +kernel
theorem d1_7 : decode prog_29_method_1_code 7 = .ok (.ifCond .ge 17, 3) := by decide +kernel
theorem d1_24 : decode prog_29_method_1_code 24 = .ok (.dload_n 1, 1) := by decide +kernel
theorem d1_25 : decode prog_29_method_1_code 25 = .ok (.dload_n 3, 1) := by decide +kernel
theorem d1_26 : decode prog_29_method_1_code 26 = .ok (.dcmp .g, 1) := by decide +kernel
theorem d1_27 : decode prog_29_method_1_code 27 = .ok (.ifCond .lt 18, 3) := by decide +kernel
theorem d1_45 : decode prog_29_method_1_code 45 = .ok (.dload_n 3, 1) := by decide +kernel
theorem d1_46 : decode prog_29_method_1_code 46 = .ok (.invokestatic 19, 3) := by decide +kernel
theorem pd_1 : parseMethodDescriptor "(D)Z" = some ⟨[.double], some .boolean⟩ := by decide +kernel
theorem d1_49 : decode prog_29_method_1_code 49 = .ok (.ifCond .ne 17, 3) := by decide +kernel
theorem d1_66 : decode prog_29_method_1_code 66 = .ok (.aload_n 0, 1) := by decide +kernel
theorem d1_67 : decode prog_29_method_1_code 67 = .ok (.dload_n 1, 1) := by decide +kernel
theorem d1_68 : decode prog_29_method_1_code 68 = .ok (.putfield 26, 3) := by decide +kernel
theorem so_UniformDistribution_high_low {Z : State} {a0 : Array Value} (hw : ∀ d ∈ tables_1, d.before a0 Z = true) : Jvm.RoadKit.slotOf Z "com/example/arrivals/arrivals/core/UniformDistribution" "high" "D" ≠ Jvm.RoadKit.slotOf Z "com/example/arrivals/arrivals/core/UniformDistribution" "low" "D" := slot_ne (Or.inr (hw _ (List.mem_of_getElem? (i := 24) rfl))) (Or.inr (hw _ (List.mem_of_getElem? (i := 22) rfl))) (by decide) (t := .double) (t' := .double) (by decide) (by decide)
theorem d1_71 : decode prog_29_method_1_code 71 = .ok (.aload_n 0, 1) := by decide +kernel
theorem d1_72 : decode prog_29_method_1_code 72 = .ok (.dload_n 3, 1) := by decide +kernel
theorem d1_73 : decode prog_29_method_1_code 73 = .ok (.putfield 32, 3) := by decide +kernel
theorem so_UniformDistribution_low_high {Z : State} {a0 : Array Value} (hw : ∀ d ∈ tables_1, d.before a0 Z = true) : Jvm.RoadKit.slotOf Z "com/example/arrivals/arrivals/core/UniformDistribution" "low" "D" ≠ Jvm.RoadKit.slotOf Z "com/example/arrivals/arrivals/core/UniformDistribution" "high" "D" := slot_ne (Or.inr (hw _ (List.mem_of_getElem? (i := 22) rfl))) (Or.inr (hw _ (List.mem_of_getElem? (i := 24) rfl))) (by decide) (t := .double) (t' := .double) (by decide) (by decide)
theorem d1_76 : decode prog_29_method_1_code 76 = .ok (.return_, 1) := by decide +kernel
theorem pn_com_example_arrivals_arrivals_core_UniformDistribution : plainName "com/example/arrivals/arrivals/core/UniformDistribution" = true := by first | (simp [plainName, overriddenIn]; done) | decide +kernel
theorem ef_1_RDD (m : MethodId) (x0 : Addr) (x1 : UInt64) (x2 : UInt64) : entryFrame m #[(.ref x0), (.double x1), (.double x2)] 5 = mkF m 0 #[.val (.ref x0), .val (.double x1), .second, .val (.double x2), .second] [] := by first | (simp [entryFrame, mkF, argsToLocals, Value.category]; done) | rfl
def Q_rm1 (Z : State) (t0 : Addr) (d0 : UInt64) (d1 : UInt64) (h0 : Heap) (n0 : Nat) (v : Option Value) (h : Heap) (L : List Loc) : Prop := v = none ∧ Fr n0 L ∧ Keep h0 h [t0] ∧ Exa Z h t0 "com/example/arrivals/arrivals/core/UniformDistribution" ∧ Fld Z h t0 "com/example/arrivals/arrivals/core/UniformDistribution" "low" "D" (.double d0) ∧ Fld Z h t0 "com/example/arrivals/arrivals/core/UniformDistribution" "high" "D" (.double d1)
set_option maxRecDepth 65536 in
set_option maxHeartbeats 40000000 in
theorem rm1 (l : Launch) (Z : State) (a0 : Array Value) (hw : ∀ d ∈ tables_1, d.before a0 Z = true) (ws : List Jvm.Cond) (t0 : Addr) (d0 : UInt64) (d1 : UInt64) (h0 : Heap) (n0 : Nat) (Z0 : n0 ≤ h0.size) (E_t0 : Exa Z h0 t0 "com/example/arrivals/arrivals/core/UniformDistribution") (F_low_t0 : Fld Z h0 t0 "com/example/arrivals/arrivals/core/UniformDistribution" "low" "D" (.double (0 : UInt64))) (F_high_t0 : Fld Z h0 t0 "com/example/arrivals/arrivals/core/UniformDistribution" "high" "D" (.double (0 : UInt64))) (g_t0 : n0 ≤ t0) (hc7 : ¬ ((cmpValue (FP.dcmp d0 (0 : UInt64)) .l) < (0 : Int32))) (hc27 : (cmpValue (FP.dcmp d0 d1) .g) < (0 : Int32)) (nna1_46 : Jvm.Free.Fl.NoNaN64 d1) (hd7_46 : (cmpValue (FP.dcmp (d1 &&& 0x7fffffffffffffff) (9218868437227405311 : UInt64)) .g) = (-1 : Int32)) :
    MetFree l (⟨"com/example/arrivals/arrivals/core/UniformDistribution", "<init>", "(DD)V"⟩ : MethodName) (head1 (Jvm.Cond.code (⟨"com/example/arrivals/arrivals/core/UniformDistribution", "<init>", "(DD)V"⟩ : MethodName) prog_29_method_1_code 5 none :: ws) ({ frames := 2, cells := 0, slots := 0, locals := 26 } : Room)) (fun a U => a = #[(.ref t0), (.double d0), (.double d1)] ∧ Z.Warmed39 U.vm ∧ U.heap = h0) (fun _ _ _ _ _ => True) (fun _ U o U' => ∃ v L, o = .returned v ∧ Q_rm1 Z t0 d0 d1 h0 n0 v U'.heap L ∧ FrameEnd U o U' L ({ frames := 2, cells := 0, slots := 0, locals := 26 } : Room).cells ({ frames := 2, cells := 0, slots := 0, locals := 26 } : Room).slots) := by
  refine MetFree.of_bodySF (plainFor_of_name pn_com_example_arrivals_arrivals_core_UniformDistribution) hisR ?_
  intro p e s m args below meth c s₁ Bd hml0 hP hK
  obtain ⟨rfl, hZ, hh⟩ := hP
  have hx := Bd.exec
  have hby := Bd.bytes
  have hml : c.maxLocals = 5 := hml0
  have hown : s.vm.findClass "com/example/arrivals/arrivals/core/UniformDistribution" = some m.cls := findClass_of_methodNamed Bd.named
  have hnm := (name_of_methodNamed Bd.named Bd.method).1
  have X0 : Stand p l e ({ frames := 2, cells := 0, slots := 0, locals := 26 } : Room) s m #[(.ref t0), (.double d0), (.double d1)] below meth c s₁ [] 0 0 := Stand.of_body Bd
  have e0 : s₁.heap = h0 := by rw [← hh, Bd.state]; rfl
  have N0 := Fr.nil n0
  have pre0 : ∀ t, Steps p.tables e below (s₁.setTop (mkF m 0 #[.val (.ref t0), .val (.double d0), .second, .val (.double d1), .second] [])) t → Steps p.tables e below (s₁.setTop (entryFrame m #[(.ref t0), (.double d0), (.double d1)] 5)) t := fun t k => castTop (ef_1_RDD m t0 d0 d1) k
  obtain ⟨T1, X1, e1, st1⟩ := initO X0 hx hZ hown (hw _ (List.mem_of_getElem? (i := 9) rfl)) (hw _ (List.mem_of_getElem? (i := 10) rfl)) (hw _ (List.mem_of_getElem? (i := 11) rfl)) e0 (g := (mkF m 1 #[.val (.ref t0), .val (.double d0), .second, .val (.double d1), .second] [(.ref t0)])) rfl (by rw [hml]; rfl) rfl (hb hby d1_1) (by decide) (W := 0) (by show 2 * 0 + _ ≤ _; exact Nat.le_of_eq rfl) (by decide)
  obtain ⟨_, _, ⟨T2, L2, k2, n2⟩, -, X2, ⟨Lc2, hQ2, l2, y2, z2⟩, st2⟩ := Jvm.LawKit.callS X1 hx (y := (⟨"java/lang/Double", "isFinite", "(D)Z"⟩ : MethodName)) hown (mvT hZ (hw _ (List.mem_of_getElem? (i := 12) rfl))) (mvT hZ (hw _ (List.mem_of_getElem? (i := 13) rfl))) (mvT hZ (hw _ (List.mem_of_getElem? (i := 14) rfl))) (mvT hZ (hw _ (List.mem_of_getElem? (i := 15) rfl))) (by decide) (backOf (W := 0) (rm3 l Z a0 hw [] d1 h0 n0 Z0 nna1_46 hd7_46) hZ (hw _ (List.mem_of_getElem? (i := 15) rfl)) (hw _ (List.mem_of_getElem? (i := 14) rfl)) (by decide) (by decide)) (g := (mkF m 46 #[.val (.ref t0), .val (.double d0), .second, .val (.double d1), .second] [(.double d1)])) rfl (by rw [hml]; rfl) (argsL := [(.double d1)]) (rest := []) (lenOf pd_1 rfl) rfl (by show 2 * 0 + _ ≤ _; exact Nat.le_of_eq rfl) (hb hby d1_46) (fun _ _ => ⟨rfl, e1, (by decide : 0 + 0 ≤ _), (by decide : 0 + 0 ≤ _)⟩)
  dsimp only [Pt.U, Pt.locs, Pt.cells, Pt.slots] at X2 l2 y2 z2 st2 hQ2
  subst l2 y2 z2
  obtain ⟨rfl, N2q, eh2⟩ := hQ2
  have N2 := Fr.app N0 N2q
  have e2 : T2.heap = h0 := eh2
  obtain ⟨T3, h3, X3, e3, W3, st3⟩ := putF X2 hx hZ hown (host := "") (Or.inl (hw _ (List.mem_of_getElem? (i := 21) rfl))) Via.refl e2 F_low_t0 E_t0 (Or.inr ⟨(hw _ (List.mem_of_getElem? (i := 22) rfl)), rfl, hnm⟩) (hw _ (List.mem_of_getElem? (i := 4) rfl)) (ty := .double) (by decide) rfl rfl (g := (mkF m 68 #[.val (.ref t0), .val (.double d0), .second, .val (.double d1), .second] [(.double d0), (.ref t0)])) rfl rfl (hb hby d1_68)
  have f4 := E_t0.wr W3
  have f5 := F_high_t0.other W3 (Or.inr (so_UniformDistribution_high_low hw))
  have K3 : Keep h0 h3 [t0] := (Keep.refl h0 [t0]).wr W3 (Or.inl (List.mem_of_getElem? (i := 0) rfl))
  have Zs3 := Nat.le_trans Z0 (Keep.of_wr W3).1
  have N3 := Fr.snoc X3 N2 g_t0
  have f6 : Fld Z h3 t0 "com/example/arrivals/arrivals/core/UniformDistribution" "low" "D" (.double d0) := F_low_t0.same W3
  obtain ⟨T7, h7, X7, e7, W7, st7⟩ := putF X3 hx hZ hown (host := "") (Or.inl (hw _ (List.mem_of_getElem? (i := 23) rfl))) Via.refl e3 f5 f4 (Or.inr ⟨(hw _ (List.mem_of_getElem? (i := 24) rfl)), rfl, hnm⟩) (hw _ (List.mem_of_getElem? (i := 4) rfl)) (ty := .double) (by decide) rfl rfl (g := (mkF m 73 #[.val (.ref t0), .val (.double d0), .second, .val (.double d1), .second] [(.double d1), (.ref t0)])) rfl rfl (hb hby d1_73)
  have f8 := f4.wr W7
  have f9 := f6.other W7 (Or.inr (so_UniformDistribution_low_high hw))
  have K7 : Keep h0 h7 [t0] := K3.wr W7 (Or.inl (List.mem_of_getElem? (i := 0) rfl))
  have Zs7 := Nat.le_trans Zs3 (Keep.of_wr W7).1
  have N7 := Fr.snoc X7 N3 g_t0
  have f10 : Fld Z h7 t0 "com/example/arrivals/arrivals/core/UniformDistribution" "high" "D" (.double d1) := f5.same W7
  obtain ⟨fs, hr, hrun, hended, hW, hsame⟩ := X7.leave (v := none) (fun _ => rfl)
  refine ⟨_, _, pre0 _ ?_, hrun, hended, _, _, rfl, ?_, ⟨_, rfl⟩, hW, hsame.mono (by decide) (by decide)⟩
  · show Steps p.tables e below (s₁.setTop (mkF m 0 #[.val (.ref t0), .val (.double d0), .second, .val (.double d1), .second] [])) _
    refine XS.aloadN X0.here hx rfl (hb hby d1_0) rfl rfl ?_
    show Steps p.tables e below (s₁.setTop (mkF m 1 #[.val (.ref t0), .val (.double d0), .second, .val (.double d1), .second] [(.ref t0)])) _
    refine st1 _ ?_
    show Steps p.tables e below (T1.setTop (mkF m 4 #[.val (.ref t0), .val (.double d0), .second, .val (.double d1), .second] [])) _
    refine XS.dloadN X1.here hx rfl (hb hby d1_4) rfl ?_
    show Steps p.tables e below (T1.setTop (mkF m 5 #[.val (.ref t0), .val (.double d0), .second, .val (.double d1), .second] [(.double d0)])) _
    refine XS.dconst0 X1.here hx rfl (hb hby d1_5) (v := (0 : UInt64)) rfl ?_
    show Steps p.tables e below (T1.setTop (mkF m 6 #[.val (.ref t0), .val (.double d0), .second, .val (.double d1), .second] [(.double (0 : UInt64)), (.double d0)])) _
    refine XS.dcmpS X1.here hx rfl (hb hby d1_6) rfl (v := (cmpValue (FP.dcmp d0 (0 : UInt64)) .l)) rfl ?_
    show Steps p.tables e below (T1.setTop (mkF m 7 #[.val (.ref t0), .val (.double d0), .second, .val (.double d1), .second] [(.int (cmpValue (FP.dcmp d0 (0 : UInt64)) .l))])) _
    refine XS.ifYes X1.here hx rfl (pc0 := 7) (pc' := 24) rfl (hb hby d1_7) rfl ((if0 _ _).trans (flt hc7).2.1) (by decide) (by decide) ?_
    show Steps p.tables e below (T1.setTop (mkF m 24 #[.val (.ref t0), .val (.double d0), .second, .val (.double d1), .second] [])) _
    refine XS.dloadN X1.here hx rfl (hb hby d1_24) rfl ?_
    show Steps p.tables e below (T1.setTop (mkF m 25 #[.val (.ref t0), .val (.double d0), .second, .val (.double d1), .second] [(.double d0)])) _
    refine XS.dloadN X1.here hx rfl (hb hby d1_25) rfl ?_
    show Steps p.tables e below (T1.setTop (mkF m 26 #[.val (.ref t0), .val (.double d0), .second, .val (.double d1), .second] [(.double d1), (.double d0)])) _
    refine XS.dcmpS X1.here hx rfl (hb hby d1_26) rfl (v := (cmpValue (FP.dcmp d0 d1) .g)) rfl ?_
    show Steps p.tables e below (T1.setTop (mkF m 27 #[.val (.ref t0), .val (.double d0), .second, .val (.double d1), .second] [(.int (cmpValue (FP.dcmp d0 d1) .g))])) _
    refine XS.ifYes X1.here hx rfl (pc0 := 27) (pc' := 45) rfl (hb hby d1_27) rfl ((if0 _ _).trans (tlt hc27).1) (by decide) (by decide) ?_
    show Steps p.tables e below (T1.setTop (mkF m 45 #[.val (.ref t0), .val (.double d0), .second, .val (.double d1), .second] [])) _
    refine XS.dloadN X1.here hx rfl (hb hby d1_45) rfl ?_
    show Steps p.tables e below (T1.setTop (mkF m 46 #[.val (.ref t0), .val (.double d0), .second, .val (.double d1), .second] [(.double d1)])) _
    refine st2 _ ?_
    show Steps p.tables e below (T2.setTop (mkF m 49 #[.val (.ref t0), .val (.double d0), .second, .val (.double d1), .second] [(.int (1 : Int32))])) _
    refine XS.ifYes X2.here hx rfl (pc0 := 49) (pc' := 66) rfl (hb hby d1_49) rfl ((if0 _ _).trans (feq (by decide : ¬ ((1 : Int32) = (0 : Int32)))).2) (by decide) (by decide) ?_
    show Steps p.tables e below (T2.setTop (mkF m 66 #[.val (.ref t0), .val (.double d0), .second, .val (.double d1), .second] [])) _
    refine XS.aloadN X2.here hx rfl (hb hby d1_66) rfl rfl ?_
    show Steps p.tables e below (T2.setTop (mkF m 67 #[.val (.ref t0), .val (.double d0), .second, .val (.double d1), .second] [(.ref t0)])) _
    refine XS.dloadN X2.here hx rfl (hb hby d1_67) rfl ?_
    show Steps p.tables e below (T2.setTop (mkF m 68 #[.val (.ref t0), .val (.double d0), .second, .val (.double d1), .second] [(.double d0), (.ref t0)])) _
    refine st3 _ ?_
    show Steps p.tables e below (T3.setTop (mkF m 71 #[.val (.ref t0), .val (.double d0), .second, .val (.double d1), .second] [])) _
    refine XS.aloadN X3.here hx rfl (hb hby d1_71) rfl rfl ?_
    show Steps p.tables e below (T3.setTop (mkF m 72 #[.val (.ref t0), .val (.double d0), .second, .val (.double d1), .second] [(.ref t0)])) _
    refine XS.dloadN X3.here hx rfl (hb hby d1_72) rfl ?_
    show Steps p.tables e below (T3.setTop (mkF m 73 #[.val (.ref t0), .val (.double d0), .second, .val (.double d1), .second] [(.double d1), (.ref t0)])) _
    refine st7 _ ?_
    show Steps p.tables e below (T7.setTop (mkF m 76 #[.val (.ref t0), .val (.double d0), .second, .val (.double d1), .second] [])) _
    exact X7.returnOut hx Bd.returns (hb hby d1_76) hr
  · show Q_rm1 Z t0 d0 d1 h0 n0 _ T7.heap _
    rw [e7]
    exact ⟨rfl, N7, K7, f8, f9, f10⟩
theorem d5_0 : decode prog_29_method_3_code 0 = .ok (.dload_n 1, 1) := by decide +kernel
theorem d5_1 : decode prog_29_method_3_code 1 = .ok (.aload_n 0, 1) := by decide +kernel
theorem d5_2 : decode prog_29_method_3_code 2 = .ok (.getfield 26, 3) := by decide +kernel
theorem d5_5 : decode prog_29_method_3_code 5 = .ok (.dcmp .g, 1) := by decide +kernel
theorem d5_6 : decode prog_29_method_3_code 6 = .ok (.ifCond .gt 24, 3) := by decide +kernel
theorem d5_9 : decode prog_29_method_3_code 9 = .ok (.aload_n 0, 1) := by decide +kernel
theorem d5_10 : decode prog_29_method_3_code 10 = .ok (.getfield 26, 3) := by decide +kernel
theorem d5_13 : decode prog_29_method_3_code 13 = .ok (.ldc2_w 35, 3) := by decide +kernel
theorem d5_16 : decode prog_29_method_3_code 16 = .ok (.ddiv, 1) := by decide +kernel
theorem d5_17 : decode prog_29_method_3_code 17 = .ok (.aload_n 0, 1) := by decide +kernel
theorem d5_18 : decode prog_29_method_3_code 18 = .ok (.getfield 32, 3) := by decide +kernel
theorem d5_21 : decode prog_29_method_3_code 21 = .ok (.ldc2_w 35, 3) := by decide +kernel
theorem d5_24 : decode prog_29_method_3_code 24 = .ok (.ddiv, 1) := by decide +kernel
theorem d5_25 : decode prog_29_method_3_code 25 = .ok (.dadd, 1) := by decide +kernel
theorem d5_26 : decode prog_29_method_3_code 26 = .ok (.dstore_n 3, 1) := by decide +kernel
theorem d5_27 : decode prog_29_method_3_code 27 = .ok (.goto 49, 3) := by decide +kernel
theorem d5_76 : decode prog_29_method_3_code 76 = .ok (.dload_n 3, 1) := by decide +kernel
theorem d5_77 : decode prog_29_method_3_code 77 = .ok (.dreturn, 1) := by decide +kernel
theorem ef_5_RD (m : MethodId) (x0 : Addr) (x1 : UInt64) : entryFrame m #[(.ref x0), (.double x1)] 5 = mkF m 0 #[.val (.ref x0), .val (.double x1), .second, .unset, .unset] [] := by first | (simp [entryFrame, mkF, argsToLocals, Value.category]; done) | rfl
def Q_rm5A (Z : State) (t0 : Addr) (d2 : UInt64) (d0 : UInt64) (d1 : UInt64) (h0 : Heap) (n0 : Nat) (v : Option Value) (h : Heap) (L : List Loc) : Prop := v = some (.double (FP.dadd (FP.ddiv d0 (4611686018427387904 : UInt64)) (FP.ddiv d1 (4611686018427387904 : UInt64)))) ∧ Fr n0 L ∧ h = h0
set_option maxRecDepth 65536 in
set_option maxHeartbeats 40000000 in
theorem rm5A (l : Launch) (Z : State) (a0 : Array Value) (hw : ∀ d ∈ tables_1, d.before a0 Z = true) (ws : List Jvm.Cond) (t0 : Addr) (d2 : UInt64) (d0 : UInt64) (d1 : UInt64) (h0 : Heap) (n0 : Nat) (Z0 : n0 ≤ h0.size) (F_low_t0 : Fld Z h0 t0 "com/example/arrivals/arrivals/core/UniformDistribution" "low" "D" (.double d0)) (F_high_t0 : Fld Z h0 t0 "com/example/arrivals/arrivals/core/UniformDistribution" "high" "D" (.double d1)) (hc6 : ¬ ((0 : Int32) < (cmpValue (FP.dcmp d2 d0) .g))) (nn16 : Jvm.Free.Fl.NoNaN64 (FP.ddiv d0 (4611686018427387904 : UInt64))) (nn24 : Jvm.Free.Fl.NoNaN64 (FP.ddiv d1 (4611686018427387904 : UInt64))) (nn25 : Jvm.Free.Fl.NoNaN64 (FP.dadd (FP.ddiv d0 (4611686018427387904 : UInt64)) (FP.ddiv d1 (4611686018427387904 : UInt64)))) :
    MetFree l (⟨"com/example/arrivals/arrivals/core/UniformDistribution", "partialMean", "(D)D"⟩ : MethodName) (head1 (Jvm.Cond.code (⟨"com/example/arrivals/arrivals/core/UniformDistribution", "partialMean", "(D)D"⟩ : MethodName) prog_29_method_3_code 5 (some .double) :: ws) ({ frames := 0, cells := 0, slots := 0, locals := 0 } : Room)) (fun a U => a = #[(.ref t0), (.double d2)] ∧ Z.Warmed39 U.vm ∧ U.heap = h0) (fun _ _ _ _ _ => True) (fun _ U o U' => ∃ v L, o = .returned v ∧ Q_rm5A Z t0 d2 d0 d1 h0 n0 v U'.heap L ∧ FrameEnd U o U' L ({ frames := 0, cells := 0, slots := 0, locals := 0 } : Room).cells ({ frames := 0, cells := 0, slots := 0, locals := 0 } : Room).slots) := by
  refine MetFree.of_bodySF (plainFor_of_name pn_com_example_arrivals_arrivals_core_UniformDistribution) hisR ?_
  intro p e s m args below meth c s₁ Bd hml0 hP hK
  obtain ⟨rfl, hZ, hh⟩ := hP
  have hx := Bd.exec
  have hby := Bd.bytes
  have hml : c.maxLocals = 5 := hml0
  have hown : s.vm.findClass "com/example/arrivals/arrivals/core/UniformDistribution" = some m.cls := findClass_of_methodNamed Bd.named
  have hnm := (name_of_methodNamed Bd.named Bd.method).1
  have X0 : Stand p l e ({ frames := 0, cells := 0, slots := 0, locals := 0 } : Room) s m #[(.ref t0), (.double d2)] below meth c s₁ [] 0 0 := Stand.of_body Bd
  have e0 : s₁.heap = h0 := by rw [← hh, Bd.state]; rfl
  have N0 := Fr.nil n0
  have pre0 : ∀ t, Steps p.tables e below (s₁.setTop (mkF m 0 #[.val (.ref t0), .val (.double d2), .second, .unset, .unset] [])) t → Steps p.tables e below (s₁.setTop (entryFrame m #[(.ref t0), (.double d2)] 5)) t := fun t k => castTop (ef_5_RD m t0 d2) k
  obtain ⟨T1, X1, e1, st1⟩ := getF X0 hx hZ hown (host := "") (Or.inl (hw _ (List.mem_of_getElem? (i := 21) rfl))) Via.refl e0 F_low_t0 (g := (mkF m 2 #[.val (.ref t0), .val (.double d2), .second, .unset, .unset] [(.ref t0), (.double d2)])) rfl rfl (hb hby d5_2)
  obtain ⟨T2, X2, e2, st2⟩ := getF X1 hx hZ hown (host := "") (Or.inl (hw _ (List.mem_of_getElem? (i := 21) rfl))) Via.refl e1 F_low_t0 (g := (mkF m 10 #[.val (.ref t0), .val (.double d2), .second, .unset, .unset] [(.ref t0)])) rfl rfl (hb hby d5_10)
  obtain ⟨T3, X3, e3, st3⟩ := getF X2 hx hZ hown (host := "") (Or.inl (hw _ (List.mem_of_getElem? (i := 23) rfl))) Via.refl e2 F_high_t0 (g := (mkF m 18 #[.val (.ref t0), .val (.double d2), .second, .unset, .unset] [(.ref t0), (.double (FP.ddiv d0 (4611686018427387904 : UInt64)))])) rfl rfl (hb hby d5_18)
  obtain ⟨fs, hr, hrun, hended, hW, hsame⟩ := X3.leave (v := some (.double (FP.dadd (FP.ddiv d0 (4611686018427387904 : UInt64)) (FP.ddiv d1 (4611686018427387904 : UInt64))))) (fun h => by rw [Bd.returns] at h; cases h)
  refine ⟨_, _, pre0 _ ?_, hrun, hended, _, _, rfl, ?_, ⟨_, rfl⟩, hW, hsame.mono (by decide) (by decide)⟩
  · show Steps p.tables e below (s₁.setTop (mkF m 0 #[.val (.ref t0), .val (.double d2), .second, .unset, .unset] [])) _
    refine XS.dloadN X0.here hx rfl (hb hby d5_0) rfl ?_
    show Steps p.tables e below (s₁.setTop (mkF m 1 #[.val (.ref t0), .val (.double d2), .second, .unset, .unset] [(.double d2)])) _
    refine XS.aloadN X0.here hx rfl (hb hby d5_1) rfl rfl ?_
    show Steps p.tables e below (s₁.setTop (mkF m 2 #[.val (.ref t0), .val (.double d2), .second, .unset, .unset] [(.ref t0), (.double d2)])) _
    refine st1 _ ?_
    show Steps p.tables e below (T1.setTop (mkF m 5 #[.val (.ref t0), .val (.double d2), .second, .unset, .unset] [(.double d0), (.double d2)])) _
    refine XS.dcmpS X1.here hx rfl (hb hby d5_5) rfl (v := (cmpValue (FP.dcmp d2 d0) .g)) rfl ?_
    show Steps p.tables e below (T1.setTop (mkF m 6 #[.val (.ref t0), .val (.double d2), .second, .unset, .unset] [(.int (cmpValue (FP.dcmp d2 d0) .g))])) _
    refine XS.ifNo X1.here hx rfl (hb hby d5_6) rfl ((if0 _ _).trans (flt hc6).2.2.1) ?_
    show Steps p.tables e below (T1.setTop (mkF m 9 #[.val (.ref t0), .val (.double d2), .second, .unset, .unset] [])) _
    refine XS.aloadN X1.here hx rfl (hb hby d5_9) rfl rfl ?_
    show Steps p.tables e below (T1.setTop (mkF m 10 #[.val (.ref t0), .val (.double d2), .second, .unset, .unset] [(.ref t0)])) _
    refine st2 _ ?_
    show Steps p.tables e below (T2.setTop (mkF m 13 #[.val (.ref t0), .val (.double d2), .second, .unset, .unset] [(.double d0)])) _
    refine X2.ldc2DoubleC hx hown (mvT hZ (hw _ (List.mem_of_getElem? (i := 31) rfl))) (g := (mkF m 13 #[.val (.ref t0), .val (.double d2), .second, .unset, .unset] [(.double d0)])) rfl (hb hby d5_13) _ ?_
    show Steps p.tables e below (T2.setTop (mkF m 16 #[.val (.ref t0), .val (.double d2), .second, .unset, .unset] [(.double (4611686018427387904 : UInt64)), (.double d0)])) _
    refine XS.ddivS X2.here hx rfl (hb hby d5_16) rfl nn16 (v := (FP.ddiv d0 (4611686018427387904 : UInt64))) rfl ?_
    show Steps p.tables e below (T2.setTop (mkF m 17 #[.val (.ref t0), .val (.double d2), .second, .unset, .unset] [(.double (FP.ddiv d0 (4611686018427387904 : UInt64)))])) _
    refine XS.aloadN X2.here hx rfl (hb hby d5_17) rfl rfl ?_
    show Steps p.tables e below (T2.setTop (mkF m 18 #[.val (.ref t0), .val (.double d2), .second, .unset, .unset] [(.ref t0), (.double (FP.ddiv d0 (4611686018427387904 : UInt64)))])) _
    refine st3 _ ?_
    show Steps p.tables e below (T3.setTop (mkF m 21 #[.val (.ref t0), .val (.double d2), .second, .unset, .unset] [(.double d1), (.double (FP.ddiv d0 (4611686018427387904 : UInt64)))])) _
    refine X3.ldc2DoubleC hx hown (mvT hZ (hw _ (List.mem_of_getElem? (i := 31) rfl))) (g := (mkF m 21 #[.val (.ref t0), .val (.double d2), .second, .unset, .unset] [(.double d1), (.double (FP.ddiv d0 (4611686018427387904 : UInt64)))])) rfl (hb hby d5_21) _ ?_
    show Steps p.tables e below (T3.setTop (mkF m 24 #[.val (.ref t0), .val (.double d2), .second, .unset, .unset] [(.double (4611686018427387904 : UInt64)), (.double d1), (.double (FP.ddiv d0 (4611686018427387904 : UInt64)))])) _
    refine XS.ddivS X3.here hx rfl (hb hby d5_24) rfl nn24 (v := (FP.ddiv d1 (4611686018427387904 : UInt64))) rfl ?_
    show Steps p.tables e below (T3.setTop (mkF m 25 #[.val (.ref t0), .val (.double d2), .second, .unset, .unset] [(.double (FP.ddiv d1 (4611686018427387904 : UInt64))), (.double (FP.ddiv d0 (4611686018427387904 : UInt64)))])) _
    refine XS.daddS X3.here hx rfl (hb hby d5_25) rfl nn25 (v := (FP.dadd (FP.ddiv d0 (4611686018427387904 : UInt64)) (FP.ddiv d1 (4611686018427387904 : UInt64)))) rfl ?_
    show Steps p.tables e below (T3.setTop (mkF m 26 #[.val (.ref t0), .val (.double d2), .second, .unset, .unset] [(.double (FP.dadd (FP.ddiv d0 (4611686018427387904 : UInt64)) (FP.ddiv d1 (4611686018427387904 : UInt64))))])) _
    refine XS.dstoreN X3.here hx rfl (hb hby d5_26) rfl (l' := #[.val (.ref t0), .val (.double d2), .second, .val (.double (FP.dadd (FP.ddiv d0 (4611686018427387904 : UInt64)) (FP.ddiv d1 (4611686018427387904 : UInt64)))), .second]) rfl ?_
    show Steps p.tables e below (T3.setTop (mkF m 27 #[.val (.ref t0), .val (.double d2), .second, .val (.double (FP.dadd (FP.ddiv d0 (4611686018427387904 : UInt64)) (FP.ddiv d1 (4611686018427387904 : UInt64)))), .second] [])) _
    refine XS.goto X3.here hx rfl (pc0 := 27) (pc' := 76) rfl (hb hby d5_27) (by decide) (by decide) ?_
    show Steps p.tables e below (T3.setTop (mkF m 76 #[.val (.ref t0), .val (.double d2), .second, .val (.double (FP.dadd (FP.ddiv d0 (4611686018427387904 : UInt64)) (FP.ddiv d1 (4611686018427387904 : UInt64)))), .second] [])) _
    refine XS.dloadN X3.here hx rfl (hb hby d5_76) rfl ?_
    show Steps p.tables e below (T3.setTop (mkF m 77 #[.val (.ref t0), .val (.double d2), .second, .val (.double (FP.dadd (FP.ddiv d0 (4611686018427387904 : UInt64)) (FP.ddiv d1 (4611686018427387904 : UInt64)))), .second] [(.double (FP.dadd (FP.ddiv d0 (4611686018427387904 : UInt64)) (FP.ddiv d1 (4611686018427387904 : UInt64))))])) _
    exact retOut X3 hx Bd.returns rfl (Or.inr (Or.inr (Or.inl ⟨rfl, rfl, _, rfl⟩))) (hb hby d5_77) hr
  · show Q_rm5A Z t0 d2 d0 d1 h0 n0 _ T3.heap _
    rw [e3]
    exact ⟨rfl, N0, rfl⟩
theorem d5_30 : decode prog_29_method_3_code 30 = .ok (.dload_n 1, 1) := by decide +kernel
theorem d5_31 : decode prog_29_method_3_code 31 = .ok (.aload_n 0, 1) := by decide +kernel
theorem d5_32 : decode prog_29_method_3_code 32 = .ok (.getfield 32, 3) := by decide +kernel
theorem d5_35 : decode prog_29_method_3_code 35 = .ok (.dcmp .l, 1) := by decide +kernel
theorem d5_36 : decode prog_29_method_3_code 36 = .ok (.ifCond .lt 8, 3) := by decide +kernel
theorem d5_39 : decode prog_29_method_3_code 39 = .ok (.dconst 0, 1) := by decide +kernel
theorem d5_40 : decode prog_29_method_3_code 40 = .ok (.dstore_n 3, 1) := by decide +kernel
theorem d5_41 : decode prog_29_method_3_code 41 = .ok (.goto 35, 3) := by decide +kernel
def Q_rm5B (Z : State) (t0 : Addr) (d2 : UInt64) (d0 : UInt64) (d1 : UInt64) (h0 : Heap) (n0 : Nat) (v : Option Value) (h : Heap) (L : List Loc) : Prop := v = some (.double (0 : UInt64)) ∧ Fr n0 L ∧ h = h0
set_option maxRecDepth 65536 in
set_option maxHeartbeats 40000000 in
theorem rm5B (l : Launch) (Z : State) (a0 : Array Value) (hw : ∀ d ∈ tables_1, d.before a0 Z = true) (ws : List Jvm.Cond) (t0 : Addr) (d2 : UInt64) (d0 : UInt64) (d1 : UInt64) (h0 : Heap) (n0 : Nat) (Z0 : n0 ≤ h0.size) (F_low_t0 : Fld Z h0 t0 "com/example/arrivals/arrivals/core/UniformDistribution" "low" "D" (.double d0)) (F_high_t0 : Fld Z h0 t0 "com/example/arrivals/arrivals/core/UniformDistribution" "high" "D" (.double d1)) (hc6 : (0 : Int32) < (cmpValue (FP.dcmp d2 d0) .g)) (hc36 : ¬ ((cmpValue (FP.dcmp d2 d1) .l) < (0 : Int32))) :
    MetFree l (⟨"com/example/arrivals/arrivals/core/UniformDistribution", "partialMean", "(D)D"⟩ : MethodName) (head1 (Jvm.Cond.code (⟨"com/example/arrivals/arrivals/core/UniformDistribution", "partialMean", "(D)D"⟩ : MethodName) prog_29_method_3_code 5 (some .double) :: ws) ({ frames := 0, cells := 0, slots := 0, locals := 0 } : Room)) (fun a U => a = #[(.ref t0), (.double d2)] ∧ Z.Warmed39 U.vm ∧ U.heap = h0) (fun _ _ _ _ _ => True) (fun _ U o U' => ∃ v L, o = .returned v ∧ Q_rm5B Z t0 d2 d0 d1 h0 n0 v U'.heap L ∧ FrameEnd U o U' L ({ frames := 0, cells := 0, slots := 0, locals := 0 } : Room).cells ({ frames := 0, cells := 0, slots := 0, locals := 0 } : Room).slots) := by
  refine MetFree.of_bodySF (plainFor_of_name pn_com_example_arrivals_arrivals_core_UniformDistribution) hisR ?_
  intro p e s m args below meth c s₁ Bd hml0 hP hK
  obtain ⟨rfl, hZ, hh⟩ := hP
  have hx := Bd.exec
  have hby := Bd.bytes
  have hml : c.maxLocals = 5 := hml0
  have hown : s.vm.findClass "com/example/arrivals/arrivals/core/UniformDistribution" = some m.cls := findClass_of_methodNamed Bd.named
  have hnm := (name_of_methodNamed Bd.named Bd.method).1
  have X0 : Stand p l e ({ frames := 0, cells := 0, slots := 0, locals := 0 } : Room) s m #[(.ref t0), (.double d2)] below meth c s₁ [] 0 0 := Stand.of_body Bd
  have e0 : s₁.heap = h0 := by rw [← hh, Bd.state]; rfl
  have N0 := Fr.nil n0
  have pre0 : ∀ t, Steps p.tables e below (s₁.setTop (mkF m 0 #[.val (.ref t0), .val (.double d2), .second, .unset, .unset] [])) t → Steps p.tables e below (s₁.setTop (entryFrame m #[(.ref t0), (.double d2)] 5)) t := fun t k => castTop (ef_5_RD m t0 d2) k
  obtain ⟨T1, X1, e1, st1⟩ := getF X0 hx hZ hown (host := "") (Or.inl (hw _ (List.mem_of_getElem? (i := 21) rfl))) Via.refl e0 F_low_t0 (g := (mkF m 2 #[.val (.ref t0), .val (.double d2), .second, .unset, .unset] [(.ref t0), (.double d2)])) rfl rfl (hb hby d5_2)
  obtain ⟨T2, X2, e2, st2⟩ := getF X1 hx hZ hown (host := "") (Or.inl (hw _ (List.mem_of_getElem? (i := 23) rfl))) Via.refl e1 F_high_t0 (g := (mkF m 32 #[.val (.ref t0), .val (.double d2), .second, .unset, .unset] [(.ref t0), (.double d2)])) rfl rfl (hb hby d5_32)
  obtain ⟨fs, hr, hrun, hended, hW, hsame⟩ := X2.leave (v := some (.double (0 : UInt64))) (fun h => by rw [Bd.returns] at h; cases h)
  refine ⟨_, _, pre0 _ ?_, hrun, hended, _, _, rfl, ?_, ⟨_, rfl⟩, hW, hsame.mono (by decide) (by decide)⟩
  · show Steps p.tables e below (s₁.setTop (mkF m 0 #[.val (.ref t0), .val (.double d2), .second, .unset, .unset] [])) _
    refine XS.dloadN X0.here hx rfl (hb hby d5_0) rfl ?_
    show Steps p.tables e below (s₁.setTop (mkF m 1 #[.val (.ref t0), .val (.double d2), .second, .unset, .unset] [(.double d2)])) _
    refine XS.aloadN X0.here hx rfl (hb hby d5_1) rfl rfl ?_
    show Steps p.tables e below (s₁.setTop (mkF m 2 #[.val (.ref t0), .val (.double d2), .second, .unset, .unset] [(.ref t0), (.double d2)])) _
    refine st1 _ ?_
    show Steps p.tables e below (T1.setTop (mkF m 5 #[.val (.ref t0), .val (.double d2), .second, .unset, .unset] [(.double d0), (.double d2)])) _
    refine XS.dcmpS X1.here hx rfl (hb hby d5_5) rfl (v := (cmpValue (FP.dcmp d2 d0) .g)) rfl ?_
    show Steps p.tables e below (T1.setTop (mkF m 6 #[.val (.ref t0), .val (.double d2), .second, .unset, .unset] [(.int (cmpValue (FP.dcmp d2 d0) .g))])) _
    refine XS.ifYes X1.here hx rfl (pc0 := 6) (pc' := 30) rfl (hb hby d5_6) rfl ((if0 _ _).trans (tlt hc6).2.2.1) (by decide) (by decide) ?_
    show Steps p.tables e below (T1.setTop (mkF m 30 #[.val (.ref t0), .val (.double d2), .second, .unset, .unset] [])) _
    refine XS.dloadN X1.here hx rfl (hb hby d5_30) rfl ?_
    show Steps p.tables e below (T1.setTop (mkF m 31 #[.val (.ref t0), .val (.double d2), .second, .unset, .unset] [(.double d2)])) _
    refine XS.aloadN X1.here hx rfl (hb hby d5_31) rfl rfl ?_
    show Steps p.tables e below (T1.setTop (mkF m 32 #[.val (.ref t0), .val (.double d2), .second, .unset, .unset] [(.ref t0), (.double d2)])) _
    refine st2 _ ?_
    show Steps p.tables e below (T2.setTop (mkF m 35 #[.val (.ref t0), .val (.double d2), .second, .unset, .unset] [(.double d1), (.double d2)])) _
    refine XS.dcmpS X2.here hx rfl (hb hby d5_35) rfl (v := (cmpValue (FP.dcmp d2 d1) .l)) rfl ?_
    show Steps p.tables e below (T2.setTop (mkF m 36 #[.val (.ref t0), .val (.double d2), .second, .unset, .unset] [(.int (cmpValue (FP.dcmp d2 d1) .l))])) _
    refine XS.ifNo X2.here hx rfl (hb hby d5_36) rfl ((if0 _ _).trans (flt hc36).1) ?_
    show Steps p.tables e below (T2.setTop (mkF m 39 #[.val (.ref t0), .val (.double d2), .second, .unset, .unset] [])) _
    refine XS.dconst0 X2.here hx rfl (hb hby d5_39) (v := (0 : UInt64)) rfl ?_
    show Steps p.tables e below (T2.setTop (mkF m 40 #[.val (.ref t0), .val (.double d2), .second, .unset, .unset] [(.double (0 : UInt64))])) _
    refine XS.dstoreN X2.here hx rfl (hb hby d5_40) rfl (l' := #[.val (.ref t0), .val (.double d2), .second, .val (.double (0 : UInt64)), .second]) rfl ?_
    show Steps p.tables e below (T2.setTop (mkF m 41 #[.val (.ref t0), .val (.double d2), .second, .val (.double (0 : UInt64)), .second] [])) _
    refine XS.goto X2.here hx rfl (pc0 := 41) (pc' := 76) rfl (hb hby d5_41) (by decide) (by decide) ?_
    show Steps p.tables e below (T2.setTop (mkF m 76 #[.val (.ref t0), .val (.double d2), .second, .val (.double (0 : UInt64)), .second] [])) _
    refine XS.dloadN X2.here hx rfl (hb hby d5_76) rfl ?_
    show Steps p.tables e below (T2.setTop (mkF m 77 #[.val (.ref t0), .val (.double d2), .second, .val (.double (0 : UInt64)), .second] [(.double (0 : UInt64))])) _
    exact retOut X2 hx Bd.returns rfl (Or.inr (Or.inr (Or.inl ⟨rfl, rfl, _, rfl⟩))) (hb hby d5_77) hr
  · show Q_rm5B Z t0 d2 d0 d1 h0 n0 _ T2.heap _
    rw [e2]
    exact ⟨rfl, N0, rfl⟩
theorem d5_44 : decode prog_29_method_3_code 44 = .ok (.aload_n 0, 1) := by decide +kernel
theorem d5_45 : decode prog_29_method_3_code 45 = .ok (.getfield 32, 3) := by decide +kernel
theorem d5_48 : decode prog_29_method_3_code 48 = .ok (.dload_n 1, 1) := by decide +kernel
theorem d5_49 : decode prog_29_method_3_code 49 = .ok (.dsub, 1) := by decide +kernel
theorem d5_50 : decode prog_29_method_3_code 50 = .ok (.aload_n 0, 1) := by decide +kernel
theorem d5_51 : decode prog_29_method_3_code 51 = .ok (.getfield 32, 3) := by decide +kernel
theorem d5_54 : decode prog_29_method_3_code 54 = .ok (.aload_n 0, 1) := by decide +kernel
theorem d5_55 : decode prog_29_method_3_code 55 = .ok (.getfield 26, 3) := by decide +kernel
theorem d5_58 : decode prog_29_method_3_code 58 = .ok (.dsub, 1) := by decide +kernel
theorem d5_59 : decode prog_29_method_3_code 59 = .ok (.ddiv, 1) := by decide +kernel
theorem d5_60 : decode prog_29_method_3_code 60 = .ok (.dload_n 1, 1) := by decide +kernel
theorem d5_61 : decode prog_29_method_3_code 61 = .ok (.ldc2_w 35, 3) := by decide +kernel
theorem d5_64 : decode prog_29_method_3_code 64 = .ok (.ddiv, 1) := by decide +kernel
theorem d5_65 : decode prog_29_method_3_code 65 = .ok (.aload_n 0, 1) := by decide +kernel
theorem d5_66 : decode prog_29_method_3_code 66 = .ok (.getfield 32, 3) := by decide +kernel
theorem d5_69 : decode prog_29_method_3_code 69 = .ok (.ldc2_w 35, 3) := by decide +kernel
theorem d5_72 : decode prog_29_method_3_code 72 = .ok (.ddiv, 1) := by decide +kernel
theorem d5_73 : decode prog_29_method_3_code 73 = .ok (.dadd, 1) := by decide +kernel
theorem d5_74 : decode prog_29_method_3_code 74 = .ok (.dmul, 1) := by decide +kernel
theorem d5_75 : decode prog_29_method_3_code 75 = .ok (.dstore_n 3, 1) := by decide +kernel
def Q_rm5C (Z : State) (t0 : Addr) (d2 : UInt64) (d0 : UInt64) (d1 : UInt64) (h0 : Heap) (n0 : Nat) (v : Option Value) (h : Heap) (L : List Loc) : Prop := v = some (.double (FP.dmul (FP.ddiv (FP.dsub d1 d2) (FP.dsub d1 d0)) (FP.dadd (FP.ddiv d2 (4611686018427387904 : UInt64)) (FP.ddiv d1 (4611686018427387904 : UInt64))))) ∧ Fr n0 L ∧ h = h0
set_option maxRecDepth 65536 in
set_option maxHeartbeats 40000000 in
theorem rm5C (l : Launch) (Z : State) (a0 : Array Value) (hw : ∀ d ∈ tables_1, d.before a0 Z = true) (ws : List Jvm.Cond) (t0 : Addr) (d2 : UInt64) (d0 : UInt64) (d1 : UInt64) (h0 : Heap) (n0 : Nat) (Z0 : n0 ≤ h0.size) (F_low_t0 : Fld Z h0 t0 "com/example/arrivals/arrivals/core/UniformDistribution" "low" "D" (.double d0)) (F_high_t0 : Fld Z h0 t0 "com/example/arrivals/arrivals/core/UniformDistribution" "high" "D" (.double d1)) (hc6 : (0 : Int32) < (cmpValue (FP.dcmp d2 d0) .g)) (hc36 : (cmpValue (FP.dcmp d2 d1) .l) < (0 : Int32)) (nn49 : Jvm.Free.Fl.NoNaN64 (FP.dsub d1 d2)) (nn58 : Jvm.Free.Fl.NoNaN64 (FP.dsub d1 d0)) (nn59 : Jvm.Free.Fl.NoNaN64 (FP.ddiv (FP.dsub d1 d2) (FP.dsub d1 d0))) (nn64 : Jvm.Free.Fl.NoNaN64 (FP.ddiv d2 (4611686018427387904 : UInt64))) (nn72 : Jvm.Free.Fl.NoNaN64 (FP.ddiv d1 (4611686018427387904 : UInt64))) (nn73 : Jvm.Free.Fl.NoNaN64 (FP.dadd (FP.ddiv d2 (4611686018427387904 : UInt64)) (FP.ddiv d1 (4611686018427387904 : UInt64)))) (nn74 : Jvm.Free.Fl.NoNaN64 (FP.dmul (FP.ddiv (FP.dsub d1 d2) (FP.dsub d1 d0)) (FP.dadd (FP.ddiv d2 (4611686018427387904 : UInt64)) (FP.ddiv d1 (4611686018427387904 : UInt64))))) :
    MetFree l (⟨"com/example/arrivals/arrivals/core/UniformDistribution", "partialMean", "(D)D"⟩ : MethodName) (head1 (Jvm.Cond.code (⟨"com/example/arrivals/arrivals/core/UniformDistribution", "partialMean", "(D)D"⟩ : MethodName) prog_29_method_3_code 5 (some .double) :: ws) ({ frames := 0, cells := 0, slots := 0, locals := 0 } : Room)) (fun a U => a = #[(.ref t0), (.double d2)] ∧ Z.Warmed39 U.vm ∧ U.heap = h0) (fun _ _ _ _ _ => True) (fun _ U o U' => ∃ v L, o = .returned v ∧ Q_rm5C Z t0 d2 d0 d1 h0 n0 v U'.heap L ∧ FrameEnd U o U' L ({ frames := 0, cells := 0, slots := 0, locals := 0 } : Room).cells ({ frames := 0, cells := 0, slots := 0, locals := 0 } : Room).slots) := by
  refine MetFree.of_bodySF (plainFor_of_name pn_com_example_arrivals_arrivals_core_UniformDistribution) hisR ?_
  intro p e s m args below meth c s₁ Bd hml0 hP hK
  obtain ⟨rfl, hZ, hh⟩ := hP
  have hx := Bd.exec
  have hby := Bd.bytes
  have hml : c.maxLocals = 5 := hml0
  have hown : s.vm.findClass "com/example/arrivals/arrivals/core/UniformDistribution" = some m.cls := findClass_of_methodNamed Bd.named
  have hnm := (name_of_methodNamed Bd.named Bd.method).1
  have X0 : Stand p l e ({ frames := 0, cells := 0, slots := 0, locals := 0 } : Room) s m #[(.ref t0), (.double d2)] below meth c s₁ [] 0 0 := Stand.of_body Bd
  have e0 : s₁.heap = h0 := by rw [← hh, Bd.state]; rfl
  have N0 := Fr.nil n0
  have pre0 : ∀ t, Steps p.tables e below (s₁.setTop (mkF m 0 #[.val (.ref t0), .val (.double d2), .second, .unset, .unset] [])) t → Steps p.tables e below (s₁.setTop (entryFrame m #[(.ref t0), (.double d2)] 5)) t := fun t k => castTop (ef_5_RD m t0 d2) k
  obtain ⟨T1, X1, e1, st1⟩ := getF X0 hx hZ hown (host := "") (Or.inl (hw _ (List.mem_of_getElem? (i := 21) rfl))) Via.refl e0 F_low_t0 (g := (mkF m 2 #[.val (.ref t0), .val (.double d2), .second, .unset, .unset] [(.ref t0), (.double d2)])) rfl rfl (hb hby d5_2)
  obtain ⟨T2, X2, e2, st2⟩ := getF X1 hx hZ hown (host := "") (Or.inl (hw _ (List.mem_of_getElem? (i := 23) rfl))) Via.refl e1 F_high_t0 (g := (mkF m 32 #[.val (.ref t0), .val (.double d2), .second, .unset, .unset] [(.ref t0), (.double d2)])) rfl rfl (hb hby d5_32)
  obtain ⟨T3, X3, e3, st3⟩ := getF X2 hx hZ hown (host := "") (Or.inl (hw _ (List.mem_of_getElem? (i := 23) rfl))) Via.refl e2 F_high_t0 (g := (mkF m 45 #[.val (.ref t0), .val (.double d2), .second, .unset, .unset] [(.ref t0)])) rfl rfl (hb hby d5_45)
  obtain ⟨T4, X4, e4, st4⟩ := getF X3 hx hZ hown (host := "") (Or.inl (hw _ (List.mem_of_getElem? (i := 23) rfl))) Via.refl e3 F_high_t0 (g := (mkF m 51 #[.val (.ref t0), .val (.double d2), .second, .unset, .unset] [(.ref t0), (.double (FP.dsub d1 d2))])) rfl rfl (hb hby d5_51)
  obtain ⟨T5, X5, e5, st5⟩ := getF X4 hx hZ hown (host := "") (Or.inl (hw _ (List.mem_of_getElem? (i := 21) rfl))) Via.refl e4 F_low_t0 (g := (mkF m 55 #[.val (.ref t0), .val (.double d2), .second, .unset, .unset] [(.ref t0), (.double d1), (.double (FP.dsub d1 d2))])) rfl rfl (hb hby d5_55)
  obtain ⟨T6, X6, e6, st6⟩ := getF X5 hx hZ hown (host := "") (Or.inl (hw _ (List.mem_of_getElem? (i := 23) rfl))) Via.refl e5 F_high_t0 (g := (mkF m 66 #[.val (.ref t0), .val (.double d2), .second, .unset, .unset] [(.ref t0), (.double (FP.ddiv d2 (4611686018427387904 : UInt64))), (.double (FP.ddiv (FP.dsub d1 d2) (FP.dsub d1 d0)))])) rfl rfl (hb hby d5_66)
  obtain ⟨fs, hr, hrun, hended, hW, hsame⟩ := X6.leave (v := some (.double (FP.dmul (FP.ddiv (FP.dsub d1 d2) (FP.dsub d1 d0)) (FP.dadd (FP.ddiv d2 (4611686018427387904 : UInt64)) (FP.ddiv d1 (4611686018427387904 : UInt64)))))) (fun h => by rw [Bd.returns] at h; cases h)
  refine ⟨_, _, pre0 _ ?_, hrun, hended, _, _, rfl, ?_, ⟨_, rfl⟩, hW, hsame.mono (by decide) (by decide)⟩
  · show Steps p.tables e below (s₁.setTop (mkF m 0 #[.val (.ref t0), .val (.double d2), .second, .unset, .unset] [])) _
    refine XS.dloadN X0.here hx rfl (hb hby d5_0) rfl ?_
    show Steps p.tables e below (s₁.setTop (mkF m 1 #[.val (.ref t0), .val (.double d2), .second, .unset, .unset] [(.double d2)])) _
    refine XS.aloadN X0.here hx rfl (hb hby d5_1) rfl rfl ?_
    show Steps p.tables e below (s₁.setTop (mkF m 2 #[.val (.ref t0), .val (.double d2), .second, .unset, .unset] [(.ref t0), (.double d2)])) _
    refine st1 _ ?_
    show Steps p.tables e below (T1.setTop (mkF m 5 #[.val (.ref t0), .val (.double d2), .second, .unset, .unset] [(.double d0), (.double d2)])) _
    refine XS.dcmpS X1.here hx rfl (hb hby d5_5) rfl (v := (cmpValue (FP.dcmp d2 d0) .g)) rfl ?_
    show Steps p.tables e below (T1.setTop (mkF m 6 #[.val (.ref t0), .val (.double d2), .second, .unset, .unset] [(.int (cmpValue (FP.dcmp d2 d0) .g))])) _
    refine XS.ifYes X1.here hx rfl (pc0 := 6) (pc' := 30) rfl (hb hby d5_6) rfl ((if0 _ _).trans (tlt hc6).2.2.1) (by decide) (by decide) ?_
    show Steps p.tables e below (T1.setTop (mkF m 30 #[.val (.ref t0), .val (.double d2), .second, .unset, .unset] [])) _
    refine XS.dloadN X1.here hx rfl (hb hby d5_30) rfl ?_
    show Steps p.tables e below (T1.setTop (mkF m 31 #[.val (.ref t0), .val (.double d2), .second, .unset, .unset] [(.double d2)])) _
    refine XS.aloadN X1.here hx rfl (hb hby d5_31) rfl rfl ?_
    show Steps p.tables e below (T1.setTop (mkF m 32 #[.val (.ref t0), .val (.double d2), .second, .unset, .unset] [(.ref t0), (.double d2)])) _
    refine st2 _ ?_
    show Steps p.tables e below (T2.setTop (mkF m 35 #[.val (.ref t0), .val (.double d2), .second, .unset, .unset] [(.double d1), (.double d2)])) _
    refine XS.dcmpS X2.here hx rfl (hb hby d5_35) rfl (v := (cmpValue (FP.dcmp d2 d1) .l)) rfl ?_
    show Steps p.tables e below (T2.setTop (mkF m 36 #[.val (.ref t0), .val (.double d2), .second, .unset, .unset] [(.int (cmpValue (FP.dcmp d2 d1) .l))])) _
    refine XS.ifYes X2.here hx rfl (pc0 := 36) (pc' := 44) rfl (hb hby d5_36) rfl ((if0 _ _).trans (tlt hc36).1) (by decide) (by decide) ?_
    show Steps p.tables e below (T2.setTop (mkF m 44 #[.val (.ref t0), .val (.double d2), .second, .unset, .unset] [])) _
    refine XS.aloadN X2.here hx rfl (hb hby d5_44) rfl rfl ?_
    show Steps p.tables e below (T2.setTop (mkF m 45 #[.val (.ref t0), .val (.double d2), .second, .unset, .unset] [(.ref t0)])) _
    refine st3 _ ?_
    show Steps p.tables e below (T3.setTop (mkF m 48 #[.val (.ref t0), .val (.double d2), .second, .unset, .unset] [(.double d1)])) _
    refine XS.dloadN X3.here hx rfl (hb hby d5_48) rfl ?_
    show Steps p.tables e below (T3.setTop (mkF m 49 #[.val (.ref t0), .val (.double d2), .second, .unset, .unset] [(.double d2), (.double d1)])) _
    refine XS.dsubS X3.here hx rfl (hb hby d5_49) rfl nn49 (v := (FP.dsub d1 d2)) rfl ?_
    show Steps p.tables e below (T3.setTop (mkF m 50 #[.val (.ref t0), .val (.double d2), .second, .unset, .unset] [(.double (FP.dsub d1 d2))])) _
    refine XS.aloadN X3.here hx rfl (hb hby d5_50) rfl rfl ?_
    show Steps p.tables e below (T3.setTop (mkF m 51 #[.val (.ref t0), .val (.double d2), .second, .unset, .unset] [(.ref t0), (.double (FP.dsub d1 d2))])) _
    refine st4 _ ?_
    show Steps p.tables e below (T4.setTop (mkF m 54 #[.val (.ref t0), .val (.double d2), .second, .unset, .unset] [(.double d1), (.double (FP.dsub d1 d2))])) _
    refine XS.aloadN X4.here hx rfl (hb hby d5_54) rfl rfl ?_
    show Steps p.tables e below (T4.setTop (mkF m 55 #[.val (.ref t0), .val (.double d2), .second, .unset, .unset] [(.ref t0), (.double d1), (.double (FP.dsub d1 d2))])) _
    refine st5 _ ?_
    show Steps p.tables e below (T5.setTop (mkF m 58 #[.val (.ref t0), .val (.double d2), .second, .unset, .unset] [(.double d0), (.double d1), (.double (FP.dsub d1 d2))])) _
    refine XS.dsubS X5.here hx rfl (hb hby d5_58) rfl nn58 (v := (FP.dsub d1 d0)) rfl ?_
    show Steps p.tables e below (T5.setTop (mkF m 59 #[.val (.ref t0), .val (.double d2), .second, .unset, .unset] [(.double (FP.dsub d1 d0)), (.double (FP.dsub d1 d2))])) _
    refine XS.ddivS X5.here hx rfl (hb hby d5_59) rfl nn59 (v := (FP.ddiv (FP.dsub d1 d2) (FP.dsub d1 d0))) rfl ?_
    show Steps p.tables e below (T5.setTop (mkF m 60 #[.val (.ref t0), .val (.double d2), .second, .unset, .unset] [(.double (FP.ddiv (FP.dsub d1 d2) (FP.dsub d1 d0)))])) _
    refine XS.dloadN X5.here hx rfl (hb hby d5_60) rfl ?_
    show Steps p.tables e below (T5.setTop (mkF m 61 #[.val (.ref t0), .val (.double d2), .second, .unset, .unset] [(.double d2), (.double (FP.ddiv (FP.dsub d1 d2) (FP.dsub d1 d0)))])) _
    refine X5.ldc2DoubleC hx hown (mvT hZ (hw _ (List.mem_of_getElem? (i := 31) rfl))) (g := (mkF m 61 #[.val (.ref t0), .val (.double d2), .second, .unset, .unset] [(.double d2), (.double (FP.ddiv (FP.dsub d1 d2) (FP.dsub d1 d0)))])) rfl (hb hby d5_61) _ ?_
    show Steps p.tables e below (T5.setTop (mkF m 64 #[.val (.ref t0), .val (.double d2), .second, .unset, .unset] [(.double (4611686018427387904 : UInt64)), (.double d2), (.double (FP.ddiv (FP.dsub d1 d2) (FP.dsub d1 d0)))])) _
    refine XS.ddivS X5.here hx rfl (hb hby d5_64) rfl nn64 (v := (FP.ddiv d2 (4611686018427387904 : UInt64))) rfl ?_
    show Steps p.tables e below (T5.setTop (mkF m 65 #[.val (.ref t0), .val (.double d2), .second, .unset, .unset] [(.double (FP.ddiv d2 (4611686018427387904 : UInt64))), (.double (FP.ddiv (FP.dsub d1 d2) (FP.dsub d1 d0)))])) _
    refine XS.aloadN X5.here hx rfl (hb hby d5_65) rfl rfl ?_
    show Steps p.tables e below (T5.setTop (mkF m 66 #[.val (.ref t0), .val (.double d2), .second, .unset, .unset] [(.ref t0), (.double (FP.ddiv d2 (4611686018427387904 : UInt64))), (.double (FP.ddiv (FP.dsub d1 d2) (FP.dsub d1 d0)))])) _
    refine st6 _ ?_
    show Steps p.tables e below (T6.setTop (mkF m 69 #[.val (.ref t0), .val (.double d2), .second, .unset, .unset] [(.double d1), (.double (FP.ddiv d2 (4611686018427387904 : UInt64))), (.double (FP.ddiv (FP.dsub d1 d2) (FP.dsub d1 d0)))])) _
    refine X6.ldc2DoubleC hx hown (mvT hZ (hw _ (List.mem_of_getElem? (i := 31) rfl))) (g := (mkF m 69 #[.val (.ref t0), .val (.double d2), .second, .unset, .unset] [(.double d1), (.double (FP.ddiv d2 (4611686018427387904 : UInt64))), (.double (FP.ddiv (FP.dsub d1 d2) (FP.dsub d1 d0)))])) rfl (hb hby d5_69) _ ?_
    show Steps p.tables e below (T6.setTop (mkF m 72 #[.val (.ref t0), .val (.double d2), .second, .unset, .unset] [(.double (4611686018427387904 : UInt64)), (.double d1), (.double (FP.ddiv d2 (4611686018427387904 : UInt64))), (.double (FP.ddiv (FP.dsub d1 d2) (FP.dsub d1 d0)))])) _
    refine XS.ddivS X6.here hx rfl (hb hby d5_72) rfl nn72 (v := (FP.ddiv d1 (4611686018427387904 : UInt64))) rfl ?_
    show Steps p.tables e below (T6.setTop (mkF m 73 #[.val (.ref t0), .val (.double d2), .second, .unset, .unset] [(.double (FP.ddiv d1 (4611686018427387904 : UInt64))), (.double (FP.ddiv d2 (4611686018427387904 : UInt64))), (.double (FP.ddiv (FP.dsub d1 d2) (FP.dsub d1 d0)))])) _
    refine XS.daddS X6.here hx rfl (hb hby d5_73) rfl nn73 (v := (FP.dadd (FP.ddiv d2 (4611686018427387904 : UInt64)) (FP.ddiv d1 (4611686018427387904 : UInt64)))) rfl ?_
    show Steps p.tables e below (T6.setTop (mkF m 74 #[.val (.ref t0), .val (.double d2), .second, .unset, .unset] [(.double (FP.dadd (FP.ddiv d2 (4611686018427387904 : UInt64)) (FP.ddiv d1 (4611686018427387904 : UInt64)))), (.double (FP.ddiv (FP.dsub d1 d2) (FP.dsub d1 d0)))])) _
    refine XS.dmulS X6.here hx rfl (hb hby d5_74) rfl nn74 (v := (FP.dmul (FP.ddiv (FP.dsub d1 d2) (FP.dsub d1 d0)) (FP.dadd (FP.ddiv d2 (4611686018427387904 : UInt64)) (FP.ddiv d1 (4611686018427387904 : UInt64))))) rfl ?_
    show Steps p.tables e below (T6.setTop (mkF m 75 #[.val (.ref t0), .val (.double d2), .second, .unset, .unset] [(.double (FP.dmul (FP.ddiv (FP.dsub d1 d2) (FP.dsub d1 d0)) (FP.dadd (FP.ddiv d2 (4611686018427387904 : UInt64)) (FP.ddiv d1 (4611686018427387904 : UInt64)))))])) _
    refine XS.dstoreN X6.here hx rfl (hb hby d5_75) rfl (l' := #[.val (.ref t0), .val (.double d2), .second, .val (.double (FP.dmul (FP.ddiv (FP.dsub d1 d2) (FP.dsub d1 d0)) (FP.dadd (FP.ddiv d2 (4611686018427387904 : UInt64)) (FP.ddiv d1 (4611686018427387904 : UInt64))))), .second]) rfl ?_
    show Steps p.tables e below (T6.setTop (mkF m 76 #[.val (.ref t0), .val (.double d2), .second, .val (.double (FP.dmul (FP.ddiv (FP.dsub d1 d2) (FP.dsub d1 d0)) (FP.dadd (FP.ddiv d2 (4611686018427387904 : UInt64)) (FP.ddiv d1 (4611686018427387904 : UInt64))))), .second] [])) _
    refine XS.dloadN X6.here hx rfl (hb hby d5_76) rfl ?_
    show Steps p.tables e below (T6.setTop (mkF m 77 #[.val (.ref t0), .val (.double d2), .second, .val (.double (FP.dmul (FP.ddiv (FP.dsub d1 d2) (FP.dsub d1 d0)) (FP.dadd (FP.ddiv d2 (4611686018427387904 : UInt64)) (FP.ddiv d1 (4611686018427387904 : UInt64))))), .second] [(.double (FP.dmul (FP.ddiv (FP.dsub d1 d2) (FP.dsub d1 d0)) (FP.dadd (FP.ddiv d2 (4611686018427387904 : UInt64)) (FP.ddiv d1 (4611686018427387904 : UInt64)))))])) _
    exact retOut X6 hx Bd.returns rfl (Or.inr (Or.inr (Or.inl ⟨rfl, rfl, _, rfl⟩))) (hb hby d5_77) hr
  · show Q_rm5C Z t0 d2 d0 d1 h0 n0 _ T6.heap _
    rw [e6]
    exact ⟨rfl, N0, rfl⟩
theorem pd_2 : parseMethodDescriptor "(DD)V" = some ⟨[.double, .double], none⟩ := by decide +kernel
theorem pn_com_example_arrivals_arrivals_core_UniformDistributionPartialMeanPinLaw : plainName "com/example/arrivals/arrivals/core/UniformDistributionPartialMeanPinLaw" = true := by first | (simp [plainName, overriddenIn]; done) | decide +kernel
theorem ef_0_III (m : MethodId) (x0 : Int32) (x1 : Int32) (x2 : Int32) : entryFrame m #[(.int x0), (.int x1), (.int x2)] maxLocals = mkF m 0 #[.val (.int x0), .val (.int x1), .val (.int x2), .unset, .unset, .unset, .unset, .unset, .unset, .unset, .unset, .unset, .unset, .unset, .unset] [] := by first | (simp [entryFrame, mkF, argsToLocals, Value.category, maxLocals]; done) | rfl
def Q0 (n0 : Nat) (v : Option Value) (h : Heap) (L : List Loc) : Prop := v = some (.int (1 : Int32)) ∧ Fr n0 L
set_option maxRecDepth 65536 in
set_option maxHeartbeats 40000000 in
theorem rm0A (l : Launch) (Z : State) (a0 : Array Value) (hw : ∀ d ∈ tables_1, d.before a0 Z = true) (ws : List Jvm.Cond) (p0 : Int32) (p1 : Int32) (p2 : Int32) (lo : Int64) (wi : Int64) (hi : Int64) (tt : Int64) (t2 : UInt64) (h0 : Heap) (n0 : Nat) (Z0 : n0 ≤ h0.size) (hv4 : ((p0 &&& (1048575 : Int32)).toInt64) = lo) (hv15 : ((1 : Int64) <<< ((p1 &&& (15 : Int32)) &&& 0x3f).toInt64) = wi) (hv21 : (lo + wi) = hi) (hv32 : (((p2 &&& (8388607 : Int32)).toInt64) - (2097152 : Int64)) = tt) (hc7_44 : ¬ ((cmpValue (FP.dcmp (FP.l2d lo) (0 : UInt64)) .l) < (0 : Int32))) (hc27_44 : (cmpValue (FP.dcmp (FP.l2d lo) (FP.l2d hi)) .g) < (0 : Int32)) (nna1_46_44 : Jvm.Free.Fl.NoNaN64 (FP.l2d hi)) (hd7_46_44 : (cmpValue (FP.dcmp ((FP.l2d hi) &&& 0x7fffffffffffffff) (9218868437227405311 : UInt64)) .g) = (-1 : Int32)) (nn57 : Jvm.Free.Fl.NoNaN64 (FP.ddiv (FP.l2d tt) (4611686018427387904 : UInt64))) (hq57 : (FP.ddiv (FP.l2d tt) (4611686018427387904 : UInt64)) = t2) (hc6_58 : ¬ ((0 : Int32) < (cmpValue (FP.dcmp t2 (FP.l2d lo)) .g))) (nn16_58 : Jvm.Free.Fl.NoNaN64 (FP.ddiv (FP.l2d lo) (4611686018427387904 : UInt64))) (nn24_58 : Jvm.Free.Fl.NoNaN64 (FP.ddiv (FP.l2d hi) (4611686018427387904 : UInt64))) (nn25_58 : Jvm.Free.Fl.NoNaN64 (FP.dadd (FP.ddiv (FP.l2d lo) (4611686018427387904 : UInt64)) (FP.ddiv (FP.l2d hi) (4611686018427387904 : UInt64)))) (hc71 : ¬ ((0 : Int32) < (lcmpW tt ((2 : Int64) * lo)))) (nn79 : Jvm.Free.Fl.NoNaN64 (FP.dmul (FP.dadd (FP.ddiv (FP.l2d lo) (4611686018427387904 : UInt64)) (FP.ddiv (FP.l2d hi) (4611686018427387904 : UInt64))) (4611686018427387904 : UInt64))) (hd85 : (cmpValue (FP.dcmp (FP.dmul (FP.dadd (FP.ddiv (FP.l2d lo) (4611686018427387904 : UInt64)) (FP.ddiv (FP.l2d hi) (4611686018427387904 : UInt64))) (4611686018427387904 : UInt64)) (FP.l2d (lo + hi))) .l) = (0 : Int32)) :
    MetFree l x (head1 (Jvm.Cond.code x code maxLocals ret :: ws) room_1) (fun a U => a = #[(.int p0), (.int p1), (.int p2)] ∧ Z.Warmed39 U.vm ∧ U.heap = h0) (fun _ _ _ _ _ => True) (fun _ U o U' => ∃ v L, o = .returned v ∧ Q0 n0 v U'.heap L ∧ FrameEnd U o U' L room_1.cells room_1.slots) := by
  refine MetFree.of_bodySF (plainFor_of_name pn_com_example_arrivals_arrivals_core_UniformDistributionPartialMeanPinLaw) hisR ?_
  intro p e s m args below meth c s₁ Bd hml0 hP hK
  obtain ⟨rfl, hZ, hh⟩ := hP
  have hx := Bd.exec
  have hby := Bd.bytes
  have hml : c.maxLocals = 15 := hml0
  have hown : s.vm.findClass "com/example/arrivals/arrivals/core/UniformDistributionPartialMeanPinLaw" = some m.cls := findClass_of_methodNamed Bd.named
  have hnm := (name_of_methodNamed Bd.named Bd.method).1
  have X0 : Stand p l e room_1 s m #[(.int p0), (.int p1), (.int p2)] below meth c s₁ [] 0 0 := Stand.of_body Bd
  have e0 : s₁.heap = h0 := by rw [← hh, Bd.state]; rfl
  have N0 := Fr.nil n0
  have pre0 : ∀ t, Steps p.tables e below (s₁.setTop (mkF m 0 #[.val (.int p0), .val (.int p1), .val (.int p2), .unset, .unset, .unset, .unset, .unset, .unset, .unset, .unset, .unset, .unset, .unset, .unset] [])) t → Steps p.tables e below (s₁.setTop (entryFrame m #[(.int p0), (.int p1), (.int p2)] maxLocals)) t := fun t k => castTop (ef_0_III m p0 p1 p2) k
  obtain ⟨T1, h1, X1, e1, E1, A1, D1, -, st1⟩ := newO X0 hx hZ hown (hw _ (List.mem_of_getElem? (i := 3) rfl)) (hw _ (List.mem_of_getElem? (i := 4) rfl)) (hw _ (List.mem_of_getElem? (i := 5) rfl)) e0 (g := (mkF m 35 #[.val (.int p0), .val (.int p1), .val (.int p2), .val (.long lo), .second, .val (.int (p1 &&& (15 : Int32))), .val (.long wi), .second, .val (.long hi), .second, .val (.long tt), .second, .unset, .unset, .unset] [])) rfl (hb hby at_35) (by decide) (by decide)
  obtain ⟨b1, g1⟩ : ∃ z, z = h0.size := ⟨_, rfl⟩
  rw [← g1] at A1 D1 st1
  have g_b1 : n0 ≤ b1 := Nat.le_trans Z0 (Nat.le_of_eq g1.symm)
  have sz_b1 : h0.size ≤ b1 := Nat.le_trans (Keep.refl h0 []).1 (Nat.le_of_eq g1.symm)
  have K1 : Keep h0 h1 [] := (Keep.refl h0 []).ext E1
  have Zs1 := Nat.le_trans Z0 E1.1
  have F1_low : Fld Z h1 b1 "com/example/arrivals/arrivals/core/UniformDistribution" "low" "D" (.double (0 : UInt64)) := D1 (Or.inr (hw _ (List.mem_of_getElem? (i := 22) rfl))) (ty := .double) (by decide)
  have F1_high : Fld Z h1 b1 "com/example/arrivals/arrivals/core/UniformDistribution" "high" "D" (.double (0 : UInt64)) := D1 (Or.inr (hw _ (List.mem_of_getElem? (i := 24) rfl))) (ty := .double) (by decide)
  obtain ⟨_, _, ⟨T2, L2, k2, n2⟩, -, X2, ⟨Lc2, hQ2, l2, y2, z2⟩, st2⟩ := X1.specialBack hx (y := (⟨"com/example/arrivals/arrivals/core/UniformDistribution", "<init>", "(DD)V"⟩ : MethodName)) rfl hown (mvT hZ (hw _ (List.mem_of_getElem? (i := 6) rfl))) (mvT hZ (hw _ (List.mem_of_getElem? (i := 7) rfl))) (mvT hZ (hw _ (List.mem_of_getElem? (i := 8) rfl))) (by decide) (backOf (W := 1) (rm1 l Z a0 hw [] b1 (FP.l2d lo) (FP.l2d hi) h1 n0 Zs1 A1 F1_low F1_high g_b1 hc7_44 hc27_44 nna1_46_44 hd7_46_44) hZ (hw _ (List.mem_of_getElem? (i := 8) rfl)) (hw _ (List.mem_of_getElem? (i := 5) rfl)) (by decide) (by decide)) (g := (mkF m 44 #[.val (.int p0), .val (.int p1), .val (.int p2), .val (.long lo), .second, .val (.int (p1 &&& (15 : Int32))), .val (.long wi), .second, .val (.long hi), .second, .val (.long tt), .second, .unset, .unset, .unset] [(.double (FP.l2d hi)), (.double (FP.l2d lo)), (.ref b1), (.ref b1)])) rfl (by rw [hml]; rfl) (Steps.refl _) (a := b1) (argsL := [(.double (FP.l2d lo)), (.double (FP.l2d hi))]) (rest := [(.ref b1)]) (lenOf pd_2 rfl) rfl (by show 2 * 0 + _ ≤ _; exact Nat.le_of_eq rfl) (hb hby at_44) (fun _ _ => ⟨rfl, e1, (by decide : 1 + 0 ≤ _), (by decide : 2 + 0 ≤ _)⟩)
  dsimp only [Pt.U, Pt.locs, Pt.cells, Pt.slots] at X2 l2 y2 z2 st2 hQ2
  subst l2 y2 z2
  obtain ⟨rfl, N2q, K2q, f3, f4, f5⟩ := hQ2
  have N2 := Fr.app N0 N2q
  have f6 := A1.keep K2q
  have K2 : Keep h0 T2.heap [] := K1.trans K2q (own_allS (Or.inr sz_b1) own_all0)
  have Zs2 := Nat.le_trans Zs1 K2q.1
  obtain ⟨cq7, kq7, q7a, q7b, q7c⟩ := isOf hZ rfl f3
  obtain ⟨_, _, ⟨T7, L7, k7, n7⟩, -, X7, ⟨Lc7, hQ7, l7, y7, z7⟩, st7⟩ := X2.virtualBack hx (y := (⟨"com/example/arrivals/arrivals/core/UniformDistribution", "partialMean", "(D)D"⟩ : MethodName)) (z := (⟨"com/example/arrivals/arrivals/core/UniformDistribution", "partialMean", "(D)D"⟩ : MethodName)) hown (mvT hZ (hw _ (List.mem_of_getElem? (i := 26) rfl))) (mvT hZ (hw _ (List.mem_of_getElem? (i := 27) rfl))) (notFace_of_selects (args := #[]) (mvT hZ (hw _ (List.mem_of_getElem? (i := 29) rfl)))) (mvT hZ (hw _ (List.mem_of_getElem? (i := 29) rfl))) (mvT hZ (hw _ (List.mem_of_getElem? (i := 28) rfl))) (by decide) (backOf (W := 0) (rm5A l Z a0 hw [] b1 t2 (FP.l2d lo) (FP.l2d hi) T2.heap n0 Zs2 f4 f5 hc6_58 nn16_58 nn24_58 nn25_58) hZ (hw _ (List.mem_of_getElem? (i := 30) rfl)) (hw _ (List.mem_of_getElem? (i := 5) rfl)) (by decide) (by decide)) q7a q7c (g := (mkF m 58 #[.val (.int p0), .val (.int p1), .val (.int p2), .val (.long lo), .second, .val (.int (p1 &&& (15 : Int32))), .val (.long wi), .second, .val (.long hi), .second, .val (.long tt), .second, .val (.ref b1), .unset, .unset] [(.double t2), (.ref b1)])) rfl (by rw [hml]; rfl) (Steps.refl _) (argsL := [(.double t2)]) (rest := []) (lenOf pd_0 rfl) rfl (by show 2 * 0 + _ ≤ _; exact Nat.le_of_eq rfl) (hb hby at_58) (fun _ _ => ⟨rfl, rfl, (by decide : 1 + 0 ≤ _), (by decide : 2 + 0 ≤ _)⟩)
  dsimp only [Pt.U, Pt.locs, Pt.cells, Pt.slots] at X7 l7 y7 z7 st7 hQ7
  subst l7 y7 z7
  obtain ⟨rfl, N7q, eh7⟩ := hQ7
  have N7 := Fr.app N2 N7q
  have e7 : T7.heap = T2.heap := eh7
  obtain ⟨fs, hr, hrun, hended, hW, hsame⟩ := X7.leave (v := some (.int (1 : Int32))) (fun h => by rw [Bd.returns] at h; cases h)
  refine ⟨_, _, pre0 _ ?_, hrun, hended, _, _, rfl, ?_, ⟨_, rfl⟩, hW, hsame.mono (by decide) (by decide)⟩
  · show Steps p.tables e below (s₁.setTop (mkF m 0 #[.val (.int p0), .val (.int p1), .val (.int p2), .unset, .unset, .unset, .unset, .unset, .unset, .unset, .unset, .unset, .unset, .unset, .unset] [])) _
    refine XS.iloadN X0.here hx rfl (hb hby at_0) rfl ?_
    show Steps p.tables e below (s₁.setTop (mkF m 1 #[.val (.int p0), .val (.int p1), .val (.int p2), .unset, .unset, .unset, .unset, .unset, .unset, .unset, .unset, .unset, .unset, .unset, .unset] [(.int p0)])) _
    refine X0.ldcInt hx hown (mvT hZ (hw _ (List.mem_of_getElem? (i := 0) rfl))) (g := (mkF m 1 #[.val (.int p0), .val (.int p1), .val (.int p2), .unset, .unset, .unset, .unset, .unset, .unset, .unset, .unset, .unset, .unset, .unset, .unset] [(.int p0)])) rfl (hb hby at_1) _ ?_
    show Steps p.tables e below (s₁.setTop (mkF m 3 #[.val (.int p0), .val (.int p1), .val (.int p2), .unset, .unset, .unset, .unset, .unset, .unset, .unset, .unset, .unset, .unset, .unset, .unset] [(.int (1048575 : Int32)), (.int p0)])) _
    refine XS.iand X0.here hx rfl (hb hby at_3) rfl ?_
    show Steps p.tables e below (s₁.setTop (mkF m 4 #[.val (.int p0), .val (.int p1), .val (.int p2), .unset, .unset, .unset, .unset, .unset, .unset, .unset, .unset, .unset, .unset, .unset, .unset] [(.int (p0 &&& (1048575 : Int32)))])) _
    refine XS.i2l X0.here hx rfl (hb hby at_4) rfl ?_
    show Steps p.tables e below (s₁.setTop (mkF m 5 #[.val (.int p0), .val (.int p1), .val (.int p2), .unset, .unset, .unset, .unset, .unset, .unset, .unset, .unset, .unset, .unset, .unset, .unset] [(.long ((p0 &&& (1048575 : Int32)).toInt64))])) _
    rw [hv4]
    show Steps p.tables e below (s₁.setTop (mkF m 5 #[.val (.int p0), .val (.int p1), .val (.int p2), .unset, .unset, .unset, .unset, .unset, .unset, .unset, .unset, .unset, .unset, .unset, .unset] [(.long lo)])) _
    refine XS.lstoreN X0.here hx rfl (hb hby at_5) rfl (l' := #[.val (.int p0), .val (.int p1), .val (.int p2), .val (.long lo), .second, .unset, .unset, .unset, .unset, .unset, .unset, .unset, .unset, .unset, .unset]) rfl ?_
    show Steps p.tables e below (s₁.setTop (mkF m 6 #[.val (.int p0), .val (.int p1), .val (.int p2), .val (.long lo), .second, .unset, .unset, .unset, .unset, .unset, .unset, .unset, .unset, .unset, .unset] [])) _
    refine XS.iloadN X0.here hx rfl (hb hby at_6) rfl ?_
    show Steps p.tables e below (s₁.setTop (mkF m 7 #[.val (.int p0), .val (.int p1), .val (.int p2), .val (.long lo), .second, .unset, .unset, .unset, .unset, .unset, .unset, .unset, .unset, .unset, .unset] [(.int p1)])) _
    refine XS.bipush X0.here hx rfl (hb hby at_7) ?_
    show Steps p.tables e below (s₁.setTop (mkF m 9 #[.val (.int p0), .val (.int p1), .val (.int p2), .val (.long lo), .second, .unset, .unset, .unset, .unset, .unset, .unset, .unset, .unset, .unset, .unset] [(.int (15 : Int32)), (.int p1)])) _
    refine XS.iand X0.here hx rfl (hb hby at_9) rfl ?_
    show Steps p.tables e below (s₁.setTop (mkF m 10 #[.val (.int p0), .val (.int p1), .val (.int p2), .val (.long lo), .second, .unset, .unset, .unset, .unset, .unset, .unset, .unset, .unset, .unset, .unset] [(.int (p1 &&& (15 : Int32)))])) _
    refine XS.istore X0.here hx rfl (hb hby at_10) rfl (l' := #[.val (.int p0), .val (.int p1), .val (.int p2), .val (.long lo), .second, .val (.int (p1 &&& (15 : Int32))), .unset, .unset, .unset, .unset, .unset, .unset, .unset, .unset, .unset]) rfl ?_
    show Steps p.tables e below (s₁.setTop (mkF m 12 #[.val (.int p0), .val (.int p1), .val (.int p2), .val (.long lo), .second, .val (.int (p1 &&& (15 : Int32))), .unset, .unset, .unset, .unset, .unset, .unset, .unset, .unset, .unset] [])) _
    refine XS.lconst X0.here hx rfl (hb hby at_12) ?_
    show Steps p.tables e below (s₁.setTop (mkF m 13 #[.val (.int p0), .val (.int p1), .val (.int p2), .val (.long lo), .second, .val (.int (p1 &&& (15 : Int32))), .unset, .unset, .unset, .unset, .unset, .unset, .unset, .unset, .unset] [(.long (1 : Int64))])) _
    refine XS.iload X0.here hx rfl (hb hby at_13) rfl ?_
    show Steps p.tables e below (s₁.setTop (mkF m 15 #[.val (.int p0), .val (.int p1), .val (.int p2), .val (.long lo), .second, .val (.int (p1 &&& (15 : Int32))), .unset, .unset, .unset, .unset, .unset, .unset, .unset, .unset, .unset] [(.int (p1 &&& (15 : Int32))), (.long (1 : Int64))])) _
    refine XS.lshl X0.here hx rfl (hb hby at_15) rfl ?_
    show Steps p.tables e below (s₁.setTop (mkF m 16 #[.val (.int p0), .val (.int p1), .val (.int p2), .val (.long lo), .second, .val (.int (p1 &&& (15 : Int32))), .unset, .unset, .unset, .unset, .unset, .unset, .unset, .unset, .unset] [(.long ((1 : Int64) <<< ((p1 &&& (15 : Int32)) &&& 0x3f).toInt64))])) _
    rw [hv15]
    show Steps p.tables e below (s₁.setTop (mkF m 16 #[.val (.int p0), .val (.int p1), .val (.int p2), .val (.long lo), .second, .val (.int (p1 &&& (15 : Int32))), .unset, .unset, .unset, .unset, .unset, .unset, .unset, .unset, .unset] [(.long wi)])) _
    refine XS.lstore X0.here hx rfl (hb hby at_16) rfl (l' := #[.val (.int p0), .val (.int p1), .val (.int p2), .val (.long lo), .second, .val (.int (p1 &&& (15 : Int32))), .val (.long wi), .second, .unset, .unset, .unset, .unset, .unset, .unset, .unset]) rfl ?_
    show Steps p.tables e below (s₁.setTop (mkF m 18 #[.val (.int p0), .val (.int p1), .val (.int p2), .val (.long lo), .second, .val (.int (p1 &&& (15 : Int32))), .val (.long wi), .second, .unset, .unset, .unset, .unset, .unset, .unset, .unset] [])) _
    refine XS.lloadN X0.here hx rfl (hb hby at_18) rfl ?_
    show Steps p.tables e below (s₁.setTop (mkF m 19 #[.val (.int p0), .val (.int p1), .val (.int p2), .val (.long lo), .second, .val (.int (p1 &&& (15 : Int32))), .val (.long wi), .second, .unset, .unset, .unset, .unset, .unset, .unset, .unset] [(.long lo)])) _
    refine XS.lload X0.here hx rfl (hb hby at_19) rfl ?_
    show Steps p.tables e below (s₁.setTop (mkF m 21 #[.val (.int p0), .val (.int p1), .val (.int p2), .val (.long lo), .second, .val (.int (p1 &&& (15 : Int32))), .val (.long wi), .second, .unset, .unset, .unset, .unset, .unset, .unset, .unset] [(.long wi), (.long lo)])) _
    refine XS.ladd X0.here hx rfl (hb hby at_21) rfl ?_
    show Steps p.tables e below (s₁.setTop (mkF m 22 #[.val (.int p0), .val (.int p1), .val (.int p2), .val (.long lo), .second, .val (.int (p1 &&& (15 : Int32))), .val (.long wi), .second, .unset, .unset, .unset, .unset, .unset, .unset, .unset] [(.long (lo + wi))])) _
    rw [hv21]
    show Steps p.tables e below (s₁.setTop (mkF m 22 #[.val (.int p0), .val (.int p1), .val (.int p2), .val (.long lo), .second, .val (.int (p1 &&& (15 : Int32))), .val (.long wi), .second, .unset, .unset, .unset, .unset, .unset, .unset, .unset] [(.long hi)])) _
    refine XS.lstore X0.here hx rfl (hb hby at_22) rfl (l' := #[.val (.int p0), .val (.int p1), .val (.int p2), .val (.long lo), .second, .val (.int (p1 &&& (15 : Int32))), .val (.long wi), .second, .val (.long hi), .second, .unset, .unset, .unset, .unset, .unset]) rfl ?_
    show Steps p.tables e below (s₁.setTop (mkF m 24 #[.val (.int p0), .val (.int p1), .val (.int p2), .val (.long lo), .second, .val (.int (p1 &&& (15 : Int32))), .val (.long wi), .second, .val (.long hi), .second, .unset, .unset, .unset, .unset, .unset] [])) _
    refine XS.iloadN X0.here hx rfl (hb hby at_24) rfl ?_
    show Steps p.tables e below (s₁.setTop (mkF m 25 #[.val (.int p0), .val (.int p1), .val (.int p2), .val (.long lo), .second, .val (.int (p1 &&& (15 : Int32))), .val (.long wi), .second, .val (.long hi), .second, .unset, .unset, .unset, .unset, .unset] [(.int p2)])) _
    refine X0.ldcInt hx hown (mvT hZ (hw _ (List.mem_of_getElem? (i := 1) rfl))) (g := (mkF m 25 #[.val (.int p0), .val (.int p1), .val (.int p2), .val (.long lo), .second, .val (.int (p1 &&& (15 : Int32))), .val (.long wi), .second, .val (.long hi), .second, .unset, .unset, .unset, .unset, .unset] [(.int p2)])) rfl (hb hby at_25) _ ?_
    show Steps p.tables e below (s₁.setTop (mkF m 27 #[.val (.int p0), .val (.int p1), .val (.int p2), .val (.long lo), .second, .val (.int (p1 &&& (15 : Int32))), .val (.long wi), .second, .val (.long hi), .second, .unset, .unset, .unset, .unset, .unset] [(.int (8388607 : Int32)), (.int p2)])) _
    refine XS.iand X0.here hx rfl (hb hby at_27) rfl ?_
    show Steps p.tables e below (s₁.setTop (mkF m 28 #[.val (.int p0), .val (.int p1), .val (.int p2), .val (.long lo), .second, .val (.int (p1 &&& (15 : Int32))), .val (.long wi), .second, .val (.long hi), .second, .unset, .unset, .unset, .unset, .unset] [(.int (p2 &&& (8388607 : Int32)))])) _
    refine XS.i2l X0.here hx rfl (hb hby at_28) rfl ?_
    show Steps p.tables e below (s₁.setTop (mkF m 29 #[.val (.int p0), .val (.int p1), .val (.int p2), .val (.long lo), .second, .val (.int (p1 &&& (15 : Int32))), .val (.long wi), .second, .val (.long hi), .second, .unset, .unset, .unset, .unset, .unset] [(.long ((p2 &&& (8388607 : Int32)).toInt64))])) _
    refine X0.ldc2Long hx hown (mvT hZ (hw _ (List.mem_of_getElem? (i := 2) rfl))) (g := (mkF m 29 #[.val (.int p0), .val (.int p1), .val (.int p2), .val (.long lo), .second, .val (.int (p1 &&& (15 : Int32))), .val (.long wi), .second, .val (.long hi), .second, .unset, .unset, .unset, .unset, .unset] [(.long ((p2 &&& (8388607 : Int32)).toInt64))])) rfl (hb hby at_29) _ ?_
    show Steps p.tables e below (s₁.setTop (mkF m 32 #[.val (.int p0), .val (.int p1), .val (.int p2), .val (.long lo), .second, .val (.int (p1 &&& (15 : Int32))), .val (.long wi), .second, .val (.long hi), .second, .unset, .unset, .unset, .unset, .unset] [(.long (2097152 : Int64)), (.long ((p2 &&& (8388607 : Int32)).toInt64))])) _
    refine XS.lsub X0.here hx rfl (hb hby at_32) rfl ?_
    show Steps p.tables e below (s₁.setTop (mkF m 33 #[.val (.int p0), .val (.int p1), .val (.int p2), .val (.long lo), .second, .val (.int (p1 &&& (15 : Int32))), .val (.long wi), .second, .val (.long hi), .second, .unset, .unset, .unset, .unset, .unset] [(.long (((p2 &&& (8388607 : Int32)).toInt64) - (2097152 : Int64)))])) _
    rw [hv32]
    show Steps p.tables e below (s₁.setTop (mkF m 33 #[.val (.int p0), .val (.int p1), .val (.int p2), .val (.long lo), .second, .val (.int (p1 &&& (15 : Int32))), .val (.long wi), .second, .val (.long hi), .second, .unset, .unset, .unset, .unset, .unset] [(.long tt)])) _
    refine XS.lstore X0.here hx rfl (hb hby at_33) rfl (l' := #[.val (.int p0), .val (.int p1), .val (.int p2), .val (.long lo), .second, .val (.int (p1 &&& (15 : Int32))), .val (.long wi), .second, .val (.long hi), .second, .val (.long tt), .second, .unset, .unset, .unset]) rfl ?_
    show Steps p.tables e below (s₁.setTop (mkF m 35 #[.val (.int p0), .val (.int p1), .val (.int p2), .val (.long lo), .second, .val (.int (p1 &&& (15 : Int32))), .val (.long wi), .second, .val (.long hi), .second, .val (.long tt), .second, .unset, .unset, .unset] [])) _
    refine st1 _ ?_
    show Steps p.tables e below (T1.setTop (mkF m 38 #[.val (.int p0), .val (.int p1), .val (.int p2), .val (.long lo), .second, .val (.int (p1 &&& (15 : Int32))), .val (.long wi), .second, .val (.long hi), .second, .val (.long tt), .second, .unset, .unset, .unset] [(.ref b1)])) _
    refine XS.dup X1.here hx rfl (hb hby at_38) rfl rfl ?_
    show Steps p.tables e below (T1.setTop (mkF m 39 #[.val (.int p0), .val (.int p1), .val (.int p2), .val (.long lo), .second, .val (.int (p1 &&& (15 : Int32))), .val (.long wi), .second, .val (.long hi), .second, .val (.long tt), .second, .unset, .unset, .unset] [(.ref b1), (.ref b1)])) _
    refine XS.lloadN X1.here hx rfl (hb hby at_39) rfl ?_
    show Steps p.tables e below (T1.setTop (mkF m 40 #[.val (.int p0), .val (.int p1), .val (.int p2), .val (.long lo), .second, .val (.int (p1 &&& (15 : Int32))), .val (.long wi), .second, .val (.long hi), .second, .val (.long tt), .second, .unset, .unset, .unset] [(.long lo), (.ref b1), (.ref b1)])) _
    refine XS.l2dS X1.here hx rfl (hb hby at_40) rfl (v := (FP.l2d lo)) rfl ?_
    show Steps p.tables e below (T1.setTop (mkF m 41 #[.val (.int p0), .val (.int p1), .val (.int p2), .val (.long lo), .second, .val (.int (p1 &&& (15 : Int32))), .val (.long wi), .second, .val (.long hi), .second, .val (.long tt), .second, .unset, .unset, .unset] [(.double (FP.l2d lo)), (.ref b1), (.ref b1)])) _
    refine XS.lload X1.here hx rfl (hb hby at_41) rfl ?_
    show Steps p.tables e below (T1.setTop (mkF m 43 #[.val (.int p0), .val (.int p1), .val (.int p2), .val (.long lo), .second, .val (.int (p1 &&& (15 : Int32))), .val (.long wi), .second, .val (.long hi), .second, .val (.long tt), .second, .unset, .unset, .unset] [(.long hi), (.double (FP.l2d lo)), (.ref b1), (.ref b1)])) _
    refine XS.l2dS X1.here hx rfl (hb hby at_43) rfl (v := (FP.l2d hi)) rfl ?_
    show Steps p.tables e below (T1.setTop (mkF m 44 #[.val (.int p0), .val (.int p1), .val (.int p2), .val (.long lo), .second, .val (.int (p1 &&& (15 : Int32))), .val (.long wi), .second, .val (.long hi), .second, .val (.long tt), .second, .unset, .unset, .unset] [(.double (FP.l2d hi)), (.double (FP.l2d lo)), (.ref b1), (.ref b1)])) _
    refine st2.trans ?_
    show Steps p.tables e below (T2.setTop (mkF m 47 #[.val (.int p0), .val (.int p1), .val (.int p2), .val (.long lo), .second, .val (.int (p1 &&& (15 : Int32))), .val (.long wi), .second, .val (.long hi), .second, .val (.long tt), .second, .unset, .unset, .unset] [(.ref b1)])) _
    refine XS.astore X2.here hx rfl (hb hby at_47) rfl rfl (l' := #[.val (.int p0), .val (.int p1), .val (.int p2), .val (.long lo), .second, .val (.int (p1 &&& (15 : Int32))), .val (.long wi), .second, .val (.long hi), .second, .val (.long tt), .second, .val (.ref b1), .unset, .unset]) rfl ?_
    show Steps p.tables e below (T2.setTop (mkF m 49 #[.val (.int p0), .val (.int p1), .val (.int p2), .val (.long lo), .second, .val (.int (p1 &&& (15 : Int32))), .val (.long wi), .second, .val (.long hi), .second, .val (.long tt), .second, .val (.ref b1), .unset, .unset] [])) _
    refine XS.aload X2.here hx rfl (hb hby at_49) rfl rfl ?_
    show Steps p.tables e below (T2.setTop (mkF m 51 #[.val (.int p0), .val (.int p1), .val (.int p2), .val (.long lo), .second, .val (.int (p1 &&& (15 : Int32))), .val (.long wi), .second, .val (.long hi), .second, .val (.long tt), .second, .val (.ref b1), .unset, .unset] [(.ref b1)])) _
    refine XS.lload X2.here hx rfl (hb hby at_51) rfl ?_
    show Steps p.tables e below (T2.setTop (mkF m 53 #[.val (.int p0), .val (.int p1), .val (.int p2), .val (.long lo), .second, .val (.int (p1 &&& (15 : Int32))), .val (.long wi), .second, .val (.long hi), .second, .val (.long tt), .second, .val (.ref b1), .unset, .unset] [(.long tt), (.ref b1)])) _
    refine XS.l2dS X2.here hx rfl (hb hby at_53) rfl (v := (FP.l2d tt)) rfl ?_
    show Steps p.tables e below (T2.setTop (mkF m 54 #[.val (.int p0), .val (.int p1), .val (.int p2), .val (.long lo), .second, .val (.int (p1 &&& (15 : Int32))), .val (.long wi), .second, .val (.long hi), .second, .val (.long tt), .second, .val (.ref b1), .unset, .unset] [(.double (FP.l2d tt)), (.ref b1)])) _
    refine X2.ldc2DoubleC hx hown (mvT hZ (hw _ (List.mem_of_getElem? (i := 25) rfl))) (g := (mkF m 54 #[.val (.int p0), .val (.int p1), .val (.int p2), .val (.long lo), .second, .val (.int (p1 &&& (15 : Int32))), .val (.long wi), .second, .val (.long hi), .second, .val (.long tt), .second, .val (.ref b1), .unset, .unset] [(.double (FP.l2d tt)), (.ref b1)])) rfl (hb hby at_54) _ ?_
    show Steps p.tables e below (T2.setTop (mkF m 57 #[.val (.int p0), .val (.int p1), .val (.int p2), .val (.long lo), .second, .val (.int (p1 &&& (15 : Int32))), .val (.long wi), .second, .val (.long hi), .second, .val (.long tt), .second, .val (.ref b1), .unset, .unset] [(.double (4611686018427387904 : UInt64)), (.double (FP.l2d tt)), (.ref b1)])) _
    refine XS.ddivS X2.here hx rfl (hb hby at_57) rfl nn57 (v := t2) hq57 ?_
    show Steps p.tables e below (T2.setTop (mkF m 58 #[.val (.int p0), .val (.int p1), .val (.int p2), .val (.long lo), .second, .val (.int (p1 &&& (15 : Int32))), .val (.long wi), .second, .val (.long hi), .second, .val (.long tt), .second, .val (.ref b1), .unset, .unset] [(.double t2), (.ref b1)])) _
    refine st7.trans ?_
    show Steps p.tables e below (T7.setTop (mkF m 61 #[.val (.int p0), .val (.int p1), .val (.int p2), .val (.long lo), .second, .val (.int (p1 &&& (15 : Int32))), .val (.long wi), .second, .val (.long hi), .second, .val (.long tt), .second, .val (.ref b1), .unset, .unset] [(.double (FP.dadd (FP.ddiv (FP.l2d lo) (4611686018427387904 : UInt64)) (FP.ddiv (FP.l2d hi) (4611686018427387904 : UInt64))))])) _
    refine XS.dstore X7.here hx rfl (hb hby at_61) rfl (l' := #[.val (.int p0), .val (.int p1), .val (.int p2), .val (.long lo), .second, .val (.int (p1 &&& (15 : Int32))), .val (.long wi), .second, .val (.long hi), .second, .val (.long tt), .second, .val (.ref b1), .val (.double (FP.dadd (FP.ddiv (FP.l2d lo) (4611686018427387904 : UInt64)) (FP.ddiv (FP.l2d hi) (4611686018427387904 : UInt64)))), .second]) rfl ?_
    show Steps p.tables e below (T7.setTop (mkF m 63 #[.val (.int p0), .val (.int p1), .val (.int p2), .val (.long lo), .second, .val (.int (p1 &&& (15 : Int32))), .val (.long wi), .second, .val (.long hi), .second, .val (.long tt), .second, .val (.ref b1), .val (.double (FP.dadd (FP.ddiv (FP.l2d lo) (4611686018427387904 : UInt64)) (FP.ddiv (FP.l2d hi) (4611686018427387904 : UInt64)))), .second] [])) _
    refine XS.lload X7.here hx rfl (hb hby at_63) rfl ?_
    show Steps p.tables e below (T7.setTop (mkF m 65 #[.val (.int p0), .val (.int p1), .val (.int p2), .val (.long lo), .second, .val (.int (p1 &&& (15 : Int32))), .val (.long wi), .second, .val (.long hi), .second, .val (.long tt), .second, .val (.ref b1), .val (.double (FP.dadd (FP.ddiv (FP.l2d lo) (4611686018427387904 : UInt64)) (FP.ddiv (FP.l2d hi) (4611686018427387904 : UInt64)))), .second] [(.long tt)])) _
    refine X7.ldc2Long hx hown (mvT hZ (hw _ (List.mem_of_getElem? (i := 32) rfl))) (g := (mkF m 65 #[.val (.int p0), .val (.int p1), .val (.int p2), .val (.long lo), .second, .val (.int (p1 &&& (15 : Int32))), .val (.long wi), .second, .val (.long hi), .second, .val (.long tt), .second, .val (.ref b1), .val (.double (FP.dadd (FP.ddiv (FP.l2d lo) (4611686018427387904 : UInt64)) (FP.ddiv (FP.l2d hi) (4611686018427387904 : UInt64)))), .second] [(.long tt)])) rfl (hb hby at_65) _ ?_
    show Steps p.tables e below (T7.setTop (mkF m 68 #[.val (.int p0), .val (.int p1), .val (.int p2), .val (.long lo), .second, .val (.int (p1 &&& (15 : Int32))), .val (.long wi), .second, .val (.long hi), .second, .val (.long tt), .second, .val (.ref b1), .val (.double (FP.dadd (FP.ddiv (FP.l2d lo) (4611686018427387904 : UInt64)) (FP.ddiv (FP.l2d hi) (4611686018427387904 : UInt64)))), .second] [(.long (2 : Int64)), (.long tt)])) _
    refine XS.lloadN X7.here hx rfl (hb hby at_68) rfl ?_
    show Steps p.tables e below (T7.setTop (mkF m 69 #[.val (.int p0), .val (.int p1), .val (.int p2), .val (.long lo), .second, .val (.int (p1 &&& (15 : Int32))), .val (.long wi), .second, .val (.long hi), .second, .val (.long tt), .second, .val (.ref b1), .val (.double (FP.dadd (FP.ddiv (FP.l2d lo) (4611686018427387904 : UInt64)) (FP.ddiv (FP.l2d hi) (4611686018427387904 : UInt64)))), .second] [(.long lo), (.long (2 : Int64)), (.long tt)])) _
    refine XS.lmul X7.here hx rfl (hb hby at_69) rfl ?_
    show Steps p.tables e below (T7.setTop (mkF m 70 #[.val (.int p0), .val (.int p1), .val (.int p2), .val (.long lo), .second, .val (.int (p1 &&& (15 : Int32))), .val (.long wi), .second, .val (.long hi), .second, .val (.long tt), .second, .val (.ref b1), .val (.double (FP.dadd (FP.ddiv (FP.l2d lo) (4611686018427387904 : UInt64)) (FP.ddiv (FP.l2d hi) (4611686018427387904 : UInt64)))), .second] [(.long ((2 : Int64) * lo)), (.long tt)])) _
    refine XS.lcmp X7.here hx rfl (hb hby at_70) rfl ?_
    show Steps p.tables e below (T7.setTop (mkF m 71 #[.val (.int p0), .val (.int p1), .val (.int p2), .val (.long lo), .second, .val (.int (p1 &&& (15 : Int32))), .val (.long wi), .second, .val (.long hi), .second, .val (.long tt), .second, .val (.ref b1), .val (.double (FP.dadd (FP.ddiv (FP.l2d lo) (4611686018427387904 : UInt64)) (FP.ddiv (FP.l2d hi) (4611686018427387904 : UInt64)))), .second] [(.int (lcmpW tt ((2 : Int64) * lo)))])) _
    refine XS.ifNo X7.here hx rfl (hb hby at_71) rfl ((if0 _ _).trans (flt hc71).2.2.1) ?_
    show Steps p.tables e below (T7.setTop (mkF m 74 #[.val (.int p0), .val (.int p1), .val (.int p2), .val (.long lo), .second, .val (.int (p1 &&& (15 : Int32))), .val (.long wi), .second, .val (.long hi), .second, .val (.long tt), .second, .val (.ref b1), .val (.double (FP.dadd (FP.ddiv (FP.l2d lo) (4611686018427387904 : UInt64)) (FP.ddiv (FP.l2d hi) (4611686018427387904 : UInt64)))), .second] [])) _
    refine XS.dload X7.here hx rfl (hb hby at_74) rfl ?_
    show Steps p.tables e below (T7.setTop (mkF m 76 #[.val (.int p0), .val (.int p1), .val (.int p2), .val (.long lo), .second, .val (.int (p1 &&& (15 : Int32))), .val (.long wi), .second, .val (.long hi), .second, .val (.long tt), .second, .val (.ref b1), .val (.double (FP.dadd (FP.ddiv (FP.l2d lo) (4611686018427387904 : UInt64)) (FP.ddiv (FP.l2d hi) (4611686018427387904 : UInt64)))), .second] [(.double (FP.dadd (FP.ddiv (FP.l2d lo) (4611686018427387904 : UInt64)) (FP.ddiv (FP.l2d hi) (4611686018427387904 : UInt64))))])) _
    refine X7.ldc2DoubleC hx hown (mvT hZ (hw _ (List.mem_of_getElem? (i := 25) rfl))) (g := (mkF m 76 #[.val (.int p0), .val (.int p1), .val (.int p2), .val (.long lo), .second, .val (.int (p1 &&& (15 : Int32))), .val (.long wi), .second, .val (.long hi), .second, .val (.long tt), .second, .val (.ref b1), .val (.double (FP.dadd (FP.ddiv (FP.l2d lo) (4611686018427387904 : UInt64)) (FP.ddiv (FP.l2d hi) (4611686018427387904 : UInt64)))), .second] [(.double (FP.dadd (FP.ddiv (FP.l2d lo) (4611686018427387904 : UInt64)) (FP.ddiv (FP.l2d hi) (4611686018427387904 : UInt64))))])) rfl (hb hby at_76) _ ?_
    show Steps p.tables e below (T7.setTop (mkF m 79 #[.val (.int p0), .val (.int p1), .val (.int p2), .val (.long lo), .second, .val (.int (p1 &&& (15 : Int32))), .val (.long wi), .second, .val (.long hi), .second, .val (.long tt), .second, .val (.ref b1), .val (.double (FP.dadd (FP.ddiv (FP.l2d lo) (4611686018427387904 : UInt64)) (FP.ddiv (FP.l2d hi) (4611686018427387904 : UInt64)))), .second] [(.double (4611686018427387904 : UInt64)), (.double (FP.dadd (FP.ddiv (FP.l2d lo) (4611686018427387904 : UInt64)) (FP.ddiv (FP.l2d hi) (4611686018427387904 : UInt64))))])) _
    refine XS.dmulS X7.here hx rfl (hb hby at_79) rfl nn79 (v := (FP.dmul (FP.dadd (FP.ddiv (FP.l2d lo) (4611686018427387904 : UInt64)) (FP.ddiv (FP.l2d hi) (4611686018427387904 : UInt64))) (4611686018427387904 : UInt64))) rfl ?_
    show Steps p.tables e below (T7.setTop (mkF m 80 #[.val (.int p0), .val (.int p1), .val (.int p2), .val (.long lo), .second, .val (.int (p1 &&& (15 : Int32))), .val (.long wi), .second, .val (.long hi), .second, .val (.long tt), .second, .val (.ref b1), .val (.double (FP.dadd (FP.ddiv (FP.l2d lo) (4611686018427387904 : UInt64)) (FP.ddiv (FP.l2d hi) (4611686018427387904 : UInt64)))), .second] [(.double (FP.dmul (FP.dadd (FP.ddiv (FP.l2d lo) (4611686018427387904 : UInt64)) (FP.ddiv (FP.l2d hi) (4611686018427387904 : UInt64))) (4611686018427387904 : UInt64)))])) _
    refine XS.lloadN X7.here hx rfl (hb hby at_80) rfl ?_
    show Steps p.tables e below (T7.setTop (mkF m 81 #[.val (.int p0), .val (.int p1), .val (.int p2), .val (.long lo), .second, .val (.int (p1 &&& (15 : Int32))), .val (.long wi), .second, .val (.long hi), .second, .val (.long tt), .second, .val (.ref b1), .val (.double (FP.dadd (FP.ddiv (FP.l2d lo) (4611686018427387904 : UInt64)) (FP.ddiv (FP.l2d hi) (4611686018427387904 : UInt64)))), .second] [(.long lo), (.double (FP.dmul (FP.dadd (FP.ddiv (FP.l2d lo) (4611686018427387904 : UInt64)) (FP.ddiv (FP.l2d hi) (4611686018427387904 : UInt64))) (4611686018427387904 : UInt64)))])) _
    refine XS.lload X7.here hx rfl (hb hby at_81) rfl ?_
    show Steps p.tables e below (T7.setTop (mkF m 83 #[.val (.int p0), .val (.int p1), .val (.int p2), .val (.long lo), .second, .val (.int (p1 &&& (15 : Int32))), .val (.long wi), .second, .val (.long hi), .second, .val (.long tt), .second, .val (.ref b1), .val (.double (FP.dadd (FP.ddiv (FP.l2d lo) (4611686018427387904 : UInt64)) (FP.ddiv (FP.l2d hi) (4611686018427387904 : UInt64)))), .second] [(.long hi), (.long lo), (.double (FP.dmul (FP.dadd (FP.ddiv (FP.l2d lo) (4611686018427387904 : UInt64)) (FP.ddiv (FP.l2d hi) (4611686018427387904 : UInt64))) (4611686018427387904 : UInt64)))])) _
    refine XS.ladd X7.here hx rfl (hb hby at_83) rfl ?_
    show Steps p.tables e below (T7.setTop (mkF m 84 #[.val (.int p0), .val (.int p1), .val (.int p2), .val (.long lo), .second, .val (.int (p1 &&& (15 : Int32))), .val (.long wi), .second, .val (.long hi), .second, .val (.long tt), .second, .val (.ref b1), .val (.double (FP.dadd (FP.ddiv (FP.l2d lo) (4611686018427387904 : UInt64)) (FP.ddiv (FP.l2d hi) (4611686018427387904 : UInt64)))), .second] [(.long (lo + hi)), (.double (FP.dmul (FP.dadd (FP.ddiv (FP.l2d lo) (4611686018427387904 : UInt64)) (FP.ddiv (FP.l2d hi) (4611686018427387904 : UInt64))) (4611686018427387904 : UInt64)))])) _
    refine XS.l2dS X7.here hx rfl (hb hby at_84) rfl (v := (FP.l2d (lo + hi))) rfl ?_
    show Steps p.tables e below (T7.setTop (mkF m 85 #[.val (.int p0), .val (.int p1), .val (.int p2), .val (.long lo), .second, .val (.int (p1 &&& (15 : Int32))), .val (.long wi), .second, .val (.long hi), .second, .val (.long tt), .second, .val (.ref b1), .val (.double (FP.dadd (FP.ddiv (FP.l2d lo) (4611686018427387904 : UInt64)) (FP.ddiv (FP.l2d hi) (4611686018427387904 : UInt64)))), .second] [(.double (FP.l2d (lo + hi))), (.double (FP.dmul (FP.dadd (FP.ddiv (FP.l2d lo) (4611686018427387904 : UInt64)) (FP.ddiv (FP.l2d hi) (4611686018427387904 : UInt64))) (4611686018427387904 : UInt64)))])) _
    refine XS.dcmpS X7.here hx rfl (hb hby at_85) rfl (v := (0 : Int32)) hd85 ?_
    show Steps p.tables e below (T7.setTop (mkF m 86 #[.val (.int p0), .val (.int p1), .val (.int p2), .val (.long lo), .second, .val (.int (p1 &&& (15 : Int32))), .val (.long wi), .second, .val (.long hi), .second, .val (.long tt), .second, .val (.ref b1), .val (.double (FP.dadd (FP.ddiv (FP.l2d lo) (4611686018427387904 : UInt64)) (FP.ddiv (FP.l2d hi) (4611686018427387904 : UInt64)))), .second] [(.int (0 : Int32))])) _
    refine XS.ifNo X7.here hx rfl (hb hby at_86) rfl ((if0 _ _).trans (teq (by decide : (0 : Int32) = (0 : Int32))).2) ?_
    show Steps p.tables e below (T7.setTop (mkF m 89 #[.val (.int p0), .val (.int p1), .val (.int p2), .val (.long lo), .second, .val (.int (p1 &&& (15 : Int32))), .val (.long wi), .second, .val (.long hi), .second, .val (.long tt), .second, .val (.ref b1), .val (.double (FP.dadd (FP.ddiv (FP.l2d lo) (4611686018427387904 : UInt64)) (FP.ddiv (FP.l2d hi) (4611686018427387904 : UInt64)))), .second] [])) _
    refine XS.iconst X7.here hx rfl (hb hby at_89) ?_
    show Steps p.tables e below (T7.setTop (mkF m 90 #[.val (.int p0), .val (.int p1), .val (.int p2), .val (.long lo), .second, .val (.int (p1 &&& (15 : Int32))), .val (.long wi), .second, .val (.long hi), .second, .val (.long tt), .second, .val (.ref b1), .val (.double (FP.dadd (FP.ddiv (FP.l2d lo) (4611686018427387904 : UInt64)) (FP.ddiv (FP.l2d hi) (4611686018427387904 : UInt64)))), .second] [(.int (1 : Int32))])) _
    refine XS.goto X7.here hx rfl (pc0 := 90) (pc' := 94) rfl (hb hby at_90) (by decide) (by decide) ?_
    show Steps p.tables e below (T7.setTop (mkF m 94 #[.val (.int p0), .val (.int p1), .val (.int p2), .val (.long lo), .second, .val (.int (p1 &&& (15 : Int32))), .val (.long wi), .second, .val (.long hi), .second, .val (.long tt), .second, .val (.ref b1), .val (.double (FP.dadd (FP.ddiv (FP.l2d lo) (4611686018427387904 : UInt64)) (FP.ddiv (FP.l2d hi) (4611686018427387904 : UInt64)))), .second] [(.int (1 : Int32))])) _
    exact retN X7 hx (t := .boolean) Bd.returns (by simp) (hb hby at_94) hr
  · show Q0 n0 _ T7.heap _
    rw [e7]
    exact ⟨rfl, N7⟩
set_option maxRecDepth 65536 in
set_option maxHeartbeats 40000000 in
theorem rm0B (l : Launch) (Z : State) (a0 : Array Value) (hw : ∀ d ∈ tables_1, d.before a0 Z = true) (ws : List Jvm.Cond) (p0 : Int32) (p1 : Int32) (p2 : Int32) (lo : Int64) (wi : Int64) (hi : Int64) (tt : Int64) (t2 : UInt64) (h0 : Heap) (n0 : Nat) (Z0 : n0 ≤ h0.size) (hv4 : ((p0 &&& (1048575 : Int32)).toInt64) = lo) (hv15 : ((1 : Int64) <<< ((p1 &&& (15 : Int32)) &&& 0x3f).toInt64) = wi) (hv21 : (lo + wi) = hi) (hv32 : (((p2 &&& (8388607 : Int32)).toInt64) - (2097152 : Int64)) = tt) (hc7_44 : ¬ ((cmpValue (FP.dcmp (FP.l2d lo) (0 : UInt64)) .l) < (0 : Int32))) (hc27_44 : (cmpValue (FP.dcmp (FP.l2d lo) (FP.l2d hi)) .g) < (0 : Int32)) (nna1_46_44 : Jvm.Free.Fl.NoNaN64 (FP.l2d hi)) (hd7_46_44 : (cmpValue (FP.dcmp ((FP.l2d hi) &&& 0x7fffffffffffffff) (9218868437227405311 : UInt64)) .g) = (-1 : Int32)) (nn57 : Jvm.Free.Fl.NoNaN64 (FP.ddiv (FP.l2d tt) (4611686018427387904 : UInt64))) (hq57 : (FP.ddiv (FP.l2d tt) (4611686018427387904 : UInt64)) = t2) (hc6_58 : (0 : Int32) < (cmpValue (FP.dcmp t2 (FP.l2d lo)) .g)) (hc36_58 : ¬ ((cmpValue (FP.dcmp t2 (FP.l2d hi)) .l) < (0 : Int32))) (hc71 : (0 : Int32) < (lcmpW tt ((2 : Int64) * lo))) (hc104 : ¬ ((lcmpW tt ((2 : Int64) * hi)) < (0 : Int32))) (hd110 : (cmpValue (FP.dcmp (0 : UInt64) (0 : UInt64)) .l) = (0 : Int32)) :
    MetFree l x (head1 (Jvm.Cond.code x code maxLocals ret :: ws) room_1) (fun a U => a = #[(.int p0), (.int p1), (.int p2)] ∧ Z.Warmed39 U.vm ∧ U.heap = h0) (fun _ _ _ _ _ => True) (fun _ U o U' => ∃ v L, o = .returned v ∧ Q0 n0 v U'.heap L ∧ FrameEnd U o U' L room_1.cells room_1.slots) := by
  refine MetFree.of_bodySF (plainFor_of_name pn_com_example_arrivals_arrivals_core_UniformDistributionPartialMeanPinLaw) hisR ?_
  intro p e s m args below meth c s₁ Bd hml0 hP hK
  obtain ⟨rfl, hZ, hh⟩ := hP
  have hx := Bd.exec
  have hby := Bd.bytes
  have hml : c.maxLocals = 15 := hml0
  have hown : s.vm.findClass "com/example/arrivals/arrivals/core/UniformDistributionPartialMeanPinLaw" = some m.cls := findClass_of_methodNamed Bd.named
  have hnm := (name_of_methodNamed Bd.named Bd.method).1
  have X0 : Stand p l e room_1 s m #[(.int p0), (.int p1), (.int p2)] below meth c s₁ [] 0 0 := Stand.of_body Bd
  have e0 : s₁.heap = h0 := by rw [← hh, Bd.state]; rfl
  have N0 := Fr.nil n0
  have pre0 : ∀ t, Steps p.tables e below (s₁.setTop (mkF m 0 #[.val (.int p0), .val (.int p1), .val (.int p2), .unset, .unset, .unset, .unset, .unset, .unset, .unset, .unset, .unset, .unset, .unset, .unset] [])) t → Steps p.tables e below (s₁.setTop (entryFrame m #[(.int p0), (.int p1), (.int p2)] maxLocals)) t := fun t k => castTop (ef_0_III m p0 p1 p2) k
  obtain ⟨T1, h1, X1, e1, E1, A1, D1, -, st1⟩ := newO X0 hx hZ hown (hw _ (List.mem_of_getElem? (i := 3) rfl)) (hw _ (List.mem_of_getElem? (i := 4) rfl)) (hw _ (List.mem_of_getElem? (i := 5) rfl)) e0 (g := (mkF m 35 #[.val (.int p0), .val (.int p1), .val (.int p2), .val (.long lo), .second, .val (.int (p1 &&& (15 : Int32))), .val (.long wi), .second, .val (.long hi), .second, .val (.long tt), .second, .unset, .unset, .unset] [])) rfl (hb hby at_35) (by decide) (by decide)
  obtain ⟨b1, g1⟩ : ∃ z, z = h0.size := ⟨_, rfl⟩
  rw [← g1] at A1 D1 st1
  have g_b1 : n0 ≤ b1 := Nat.le_trans Z0 (Nat.le_of_eq g1.symm)
  have sz_b1 : h0.size ≤ b1 := Nat.le_trans (Keep.refl h0 []).1 (Nat.le_of_eq g1.symm)
  have K1 : Keep h0 h1 [] := (Keep.refl h0 []).ext E1
  have Zs1 := Nat.le_trans Z0 E1.1
  have F1_low : Fld Z h1 b1 "com/example/arrivals/arrivals/core/UniformDistribution" "low" "D" (.double (0 : UInt64)) := D1 (Or.inr (hw _ (List.mem_of_getElem? (i := 22) rfl))) (ty := .double) (by decide)
  have F1_high : Fld Z h1 b1 "com/example/arrivals/arrivals/core/UniformDistribution" "high" "D" (.double (0 : UInt64)) := D1 (Or.inr (hw _ (List.mem_of_getElem? (i := 24) rfl))) (ty := .double) (by decide)
  obtain ⟨_, _, ⟨T2, L2, k2, n2⟩, -, X2, ⟨Lc2, hQ2, l2, y2, z2⟩, st2⟩ := X1.specialBack hx (y := (⟨"com/example/arrivals/arrivals/core/UniformDistribution", "<init>", "(DD)V"⟩ : MethodName)) rfl hown (mvT hZ (hw _ (List.mem_of_getElem? (i := 6) rfl))) (mvT hZ (hw _ (List.mem_of_getElem? (i := 7) rfl))) (mvT hZ (hw _ (List.mem_of_getElem? (i := 8) rfl))) (by decide) (backOf (W := 1) (rm1 l Z a0 hw [] b1 (FP.l2d lo) (FP.l2d hi) h1 n0 Zs1 A1 F1_low F1_high g_b1 hc7_44 hc27_44 nna1_46_44 hd7_46_44) hZ (hw _ (List.mem_of_getElem? (i := 8) rfl)) (hw _ (List.mem_of_getElem? (i := 5) rfl)) (by decide) (by decide)) (g := (mkF m 44 #[.val (.int p0), .val (.int p1), .val (.int p2), .val (.long lo), .second, .val (.int (p1 &&& (15 : Int32))), .val (.long wi), .second, .val (.long hi), .second, .val (.long tt), .second, .unset, .unset, .unset] [(.double (FP.l2d hi)), (.double (FP.l2d lo)), (.ref b1), (.ref b1)])) rfl (by rw [hml]; rfl) (Steps.refl _) (a := b1) (argsL := [(.double (FP.l2d lo)), (.double (FP.l2d hi))]) (rest := [(.ref b1)]) (lenOf pd_2 rfl) rfl (by show 2 * 0 + _ ≤ _; exact Nat.le_of_eq rfl) (hb hby at_44) (fun _ _ => ⟨rfl, e1, (by decide : 1 + 0 ≤ _), (by decide : 2 + 0 ≤ _)⟩)
  dsimp only [Pt.U, Pt.locs, Pt.cells, Pt.slots] at X2 l2 y2 z2 st2 hQ2
  subst l2 y2 z2
  obtain ⟨rfl, N2q, K2q, f3, f4, f5⟩ := hQ2
  have N2 := Fr.app N0 N2q
  have f6 := A1.keep K2q
  have K2 : Keep h0 T2.heap [] := K1.trans K2q (own_allS (Or.inr sz_b1) own_all0)
  have Zs2 := Nat.le_trans Zs1 K2q.1
  obtain ⟨cq7, kq7, q7a, q7b, q7c⟩ := isOf hZ rfl f3
  obtain ⟨_, _, ⟨T7, L7, k7, n7⟩, -, X7, ⟨Lc7, hQ7, l7, y7, z7⟩, st7⟩ := X2.virtualBack hx (y := (⟨"com/example/arrivals/arrivals/core/UniformDistribution", "partialMean", "(D)D"⟩ : MethodName)) (z := (⟨"com/example/arrivals/arrivals/core/UniformDistribution", "partialMean", "(D)D"⟩ : MethodName)) hown (mvT hZ (hw _ (List.mem_of_getElem? (i := 26) rfl))) (mvT hZ (hw _ (List.mem_of_getElem? (i := 27) rfl))) (notFace_of_selects (args := #[]) (mvT hZ (hw _ (List.mem_of_getElem? (i := 29) rfl)))) (mvT hZ (hw _ (List.mem_of_getElem? (i := 29) rfl))) (mvT hZ (hw _ (List.mem_of_getElem? (i := 28) rfl))) (by decide) (backOf (W := 0) (rm5B l Z a0 hw [] b1 t2 (FP.l2d lo) (FP.l2d hi) T2.heap n0 Zs2 f4 f5 hc6_58 hc36_58) hZ (hw _ (List.mem_of_getElem? (i := 30) rfl)) (hw _ (List.mem_of_getElem? (i := 5) rfl)) (by decide) (by decide)) q7a q7c (g := (mkF m 58 #[.val (.int p0), .val (.int p1), .val (.int p2), .val (.long lo), .second, .val (.int (p1 &&& (15 : Int32))), .val (.long wi), .second, .val (.long hi), .second, .val (.long tt), .second, .val (.ref b1), .unset, .unset] [(.double t2), (.ref b1)])) rfl (by rw [hml]; rfl) (Steps.refl _) (argsL := [(.double t2)]) (rest := []) (lenOf pd_0 rfl) rfl (by show 2 * 0 + _ ≤ _; exact Nat.le_of_eq rfl) (hb hby at_58) (fun _ _ => ⟨rfl, rfl, (by decide : 1 + 0 ≤ _), (by decide : 2 + 0 ≤ _)⟩)
  dsimp only [Pt.U, Pt.locs, Pt.cells, Pt.slots] at X7 l7 y7 z7 st7 hQ7
  subst l7 y7 z7
  obtain ⟨rfl, N7q, eh7⟩ := hQ7
  have N7 := Fr.app N2 N7q
  have e7 : T7.heap = T2.heap := eh7
  obtain ⟨fs, hr, hrun, hended, hW, hsame⟩ := X7.leave (v := some (.int (1 : Int32))) (fun h => by rw [Bd.returns] at h; cases h)
  refine ⟨_, _, pre0 _ ?_, hrun, hended, _, _, rfl, ?_, ⟨_, rfl⟩, hW, hsame.mono (by decide) (by decide)⟩
  · show Steps p.tables e below (s₁.setTop (mkF m 0 #[.val (.int p0), .val (.int p1), .val (.int p2), .unset, .unset, .unset, .unset, .unset, .unset, .unset, .unset, .unset, .unset, .unset, .unset] [])) _
    refine XS.iloadN X0.here hx rfl (hb hby at_0) rfl ?_
    show Steps p.tables e below (s₁.setTop (mkF m 1 #[.val (.int p0), .val (.int p1), .val (.int p2), .unset, .unset, .unset, .unset, .unset, .unset, .unset, .unset, .unset, .unset, .unset, .unset] [(.int p0)])) _
    refine X0.ldcInt hx hown (mvT hZ (hw _ (List.mem_of_getElem? (i := 0) rfl))) (g := (mkF m 1 #[.val (.int p0), .val (.int p1), .val (.int p2), .unset, .unset, .unset, .unset, .unset, .unset, .unset, .unset, .unset, .unset, .unset, .unset] [(.int p0)])) rfl (hb hby at_1) _ ?_
    show Steps p.tables e below (s₁.setTop (mkF m 3 #[.val (.int p0), .val (.int p1), .val (.int p2), .unset, .unset, .unset, .unset, .unset, .unset, .unset, .unset, .unset, .unset, .unset, .unset] [(.int (1048575 : Int32)), (.int p0)])) _
    refine XS.iand X0.here hx rfl (hb hby at_3) rfl ?_
    show Steps p.tables e below (s₁.setTop (mkF m 4 #[.val (.int p0), .val (.int p1), .val (.int p2), .unset, .unset, .unset, .unset, .unset, .unset, .unset, .unset, .unset, .unset, .unset, .unset] [(.int (p0 &&& (1048575 : Int32)))])) _
    refine XS.i2l X0.here hx rfl (hb hby at_4) rfl ?_
    show Steps p.tables e below (s₁.setTop (mkF m 5 #[.val (.int p0), .val (.int p1), .val (.int p2), .unset, .unset, .unset, .unset, .unset, .unset, .unset, .unset, .unset, .unset, .unset, .unset] [(.long ((p0 &&& (1048575 : Int32)).toInt64))])) _
    rw [hv4]
    show Steps p.tables e below (s₁.setTop (mkF m 5 #[.val (.int p0), .val (.int p1), .val (.int p2), .unset, .unset, .unset, .unset, .unset, .unset, .unset, .unset, .unset, .unset, .unset, .unset] [(.long lo)])) _
    refine XS.lstoreN X0.here hx rfl (hb hby at_5) rfl (l' := #[.val (.int p0), .val (.int p1), .val (.int p2), .val (.long lo), .second, .unset, .unset, .unset, .unset, .unset, .unset, .unset, .unset, .unset, .unset]) rfl ?_
    show Steps p.tables e below (s₁.setTop (mkF m 6 #[.val (.int p0), .val (.int p1), .val (.int p2), .val (.long lo), .second, .unset, .unset, .unset, .unset, .unset, .unset, .unset, .unset, .unset, .unset] [])) _
    refine XS.iloadN X0.here hx rfl (hb hby at_6) rfl ?_
    show Steps p.tables e below (s₁.setTop (mkF m 7 #[.val (.int p0), .val (.int p1), .val (.int p2), .val (.long lo), .second, .unset, .unset, .unset, .unset, .unset, .unset, .unset, .unset, .unset, .unset] [(.int p1)])) _
    refine XS.bipush X0.here hx rfl (hb hby at_7) ?_
    show Steps p.tables e below (s₁.setTop (mkF m 9 #[.val (.int p0), .val (.int p1), .val (.int p2), .val (.long lo), .second, .unset, .unset, .unset, .unset, .unset, .unset, .unset, .unset, .unset, .unset] [(.int (15 : Int32)), (.int p1)])) _
    refine XS.iand X0.here hx rfl (hb hby at_9) rfl ?_
    show Steps p.tables e below (s₁.setTop (mkF m 10 #[.val (.int p0), .val (.int p1), .val (.int p2), .val (.long lo), .second, .unset, .unset, .unset, .unset, .unset, .unset, .unset, .unset, .unset, .unset] [(.int (p1 &&& (15 : Int32)))])) _
    refine XS.istore X0.here hx rfl (hb hby at_10) rfl (l' := #[.val (.int p0), .val (.int p1), .val (.int p2), .val (.long lo), .second, .val (.int (p1 &&& (15 : Int32))), .unset, .unset, .unset, .unset, .unset, .unset, .unset, .unset, .unset]) rfl ?_
    show Steps p.tables e below (s₁.setTop (mkF m 12 #[.val (.int p0), .val (.int p1), .val (.int p2), .val (.long lo), .second, .val (.int (p1 &&& (15 : Int32))), .unset, .unset, .unset, .unset, .unset, .unset, .unset, .unset, .unset] [])) _
    refine XS.lconst X0.here hx rfl (hb hby at_12) ?_
    show Steps p.tables e below (s₁.setTop (mkF m 13 #[.val (.int p0), .val (.int p1), .val (.int p2), .val (.long lo), .second, .val (.int (p1 &&& (15 : Int32))), .unset, .unset, .unset, .unset, .unset, .unset, .unset, .unset, .unset] [(.long (1 : Int64))])) _
    refine XS.iload X0.here hx rfl (hb hby at_13) rfl ?_
    show Steps p.tables e below (s₁.setTop (mkF m 15 #[.val (.int p0), .val (.int p1), .val (.int p2), .val (.long lo), .second, .val (.int (p1 &&& (15 : Int32))), .unset, .unset, .unset, .unset, .unset, .unset, .unset, .unset, .unset] [(.int (p1 &&& (15 : Int32))), (.long (1 : Int64))])) _
    refine XS.lshl X0.here hx rfl (hb hby at_15) rfl ?_
    show Steps p.tables e below (s₁.setTop (mkF m 16 #[.val (.int p0), .val (.int p1), .val (.int p2), .val (.long lo), .second, .val (.int (p1 &&& (15 : Int32))), .unset, .unset, .unset, .unset, .unset, .unset, .unset, .unset, .unset] [(.long ((1 : Int64) <<< ((p1 &&& (15 : Int32)) &&& 0x3f).toInt64))])) _
    rw [hv15]
    show Steps p.tables e below (s₁.setTop (mkF m 16 #[.val (.int p0), .val (.int p1), .val (.int p2), .val (.long lo), .second, .val (.int (p1 &&& (15 : Int32))), .unset, .unset, .unset, .unset, .unset, .unset, .unset, .unset, .unset] [(.long wi)])) _
    refine XS.lstore X0.here hx rfl (hb hby at_16) rfl (l' := #[.val (.int p0), .val (.int p1), .val (.int p2), .val (.long lo), .second, .val (.int (p1 &&& (15 : Int32))), .val (.long wi), .second, .unset, .unset, .unset, .unset, .unset, .unset, .unset]) rfl ?_
    show Steps p.tables e below (s₁.setTop (mkF m 18 #[.val (.int p0), .val (.int p1), .val (.int p2), .val (.long lo), .second, .val (.int (p1 &&& (15 : Int32))), .val (.long wi), .second, .unset, .unset, .unset, .unset, .unset, .unset, .unset] [])) _
    refine XS.lloadN X0.here hx rfl (hb hby at_18) rfl ?_
    show Steps p.tables e below (s₁.setTop (mkF m 19 #[.val (.int p0), .val (.int p1), .val (.int p2), .val (.long lo), .second, .val (.int (p1 &&& (15 : Int32))), .val (.long wi), .second, .unset, .unset, .unset, .unset, .unset, .unset, .unset] [(.long lo)])) _
    refine XS.lload X0.here hx rfl (hb hby at_19) rfl ?_
    show Steps p.tables e below (s₁.setTop (mkF m 21 #[.val (.int p0), .val (.int p1), .val (.int p2), .val (.long lo), .second, .val (.int (p1 &&& (15 : Int32))), .val (.long wi), .second, .unset, .unset, .unset, .unset, .unset, .unset, .unset] [(.long wi), (.long lo)])) _
    refine XS.ladd X0.here hx rfl (hb hby at_21) rfl ?_
    show Steps p.tables e below (s₁.setTop (mkF m 22 #[.val (.int p0), .val (.int p1), .val (.int p2), .val (.long lo), .second, .val (.int (p1 &&& (15 : Int32))), .val (.long wi), .second, .unset, .unset, .unset, .unset, .unset, .unset, .unset] [(.long (lo + wi))])) _
    rw [hv21]
    show Steps p.tables e below (s₁.setTop (mkF m 22 #[.val (.int p0), .val (.int p1), .val (.int p2), .val (.long lo), .second, .val (.int (p1 &&& (15 : Int32))), .val (.long wi), .second, .unset, .unset, .unset, .unset, .unset, .unset, .unset] [(.long hi)])) _
    refine XS.lstore X0.here hx rfl (hb hby at_22) rfl (l' := #[.val (.int p0), .val (.int p1), .val (.int p2), .val (.long lo), .second, .val (.int (p1 &&& (15 : Int32))), .val (.long wi), .second, .val (.long hi), .second, .unset, .unset, .unset, .unset, .unset]) rfl ?_
    show Steps p.tables e below (s₁.setTop (mkF m 24 #[.val (.int p0), .val (.int p1), .val (.int p2), .val (.long lo), .second, .val (.int (p1 &&& (15 : Int32))), .val (.long wi), .second, .val (.long hi), .second, .unset, .unset, .unset, .unset, .unset] [])) _
    refine XS.iloadN X0.here hx rfl (hb hby at_24) rfl ?_
    show Steps p.tables e below (s₁.setTop (mkF m 25 #[.val (.int p0), .val (.int p1), .val (.int p2), .val (.long lo), .second, .val (.int (p1 &&& (15 : Int32))), .val (.long wi), .second, .val (.long hi), .second, .unset, .unset, .unset, .unset, .unset] [(.int p2)])) _
    refine X0.ldcInt hx hown (mvT hZ (hw _ (List.mem_of_getElem? (i := 1) rfl))) (g := (mkF m 25 #[.val (.int p0), .val (.int p1), .val (.int p2), .val (.long lo), .second, .val (.int (p1 &&& (15 : Int32))), .val (.long wi), .second, .val (.long hi), .second, .unset, .unset, .unset, .unset, .unset] [(.int p2)])) rfl (hb hby at_25) _ ?_
    show Steps p.tables e below (s₁.setTop (mkF m 27 #[.val (.int p0), .val (.int p1), .val (.int p2), .val (.long lo), .second, .val (.int (p1 &&& (15 : Int32))), .val (.long wi), .second, .val (.long hi), .second, .unset, .unset, .unset, .unset, .unset] [(.int (8388607 : Int32)), (.int p2)])) _
    refine XS.iand X0.here hx rfl (hb hby at_27) rfl ?_
    show Steps p.tables e below (s₁.setTop (mkF m 28 #[.val (.int p0), .val (.int p1), .val (.int p2), .val (.long lo), .second, .val (.int (p1 &&& (15 : Int32))), .val (.long wi), .second, .val (.long hi), .second, .unset, .unset, .unset, .unset, .unset] [(.int (p2 &&& (8388607 : Int32)))])) _
    refine XS.i2l X0.here hx rfl (hb hby at_28) rfl ?_
    show Steps p.tables e below (s₁.setTop (mkF m 29 #[.val (.int p0), .val (.int p1), .val (.int p2), .val (.long lo), .second, .val (.int (p1 &&& (15 : Int32))), .val (.long wi), .second, .val (.long hi), .second, .unset, .unset, .unset, .unset, .unset] [(.long ((p2 &&& (8388607 : Int32)).toInt64))])) _
    refine X0.ldc2Long hx hown (mvT hZ (hw _ (List.mem_of_getElem? (i := 2) rfl))) (g := (mkF m 29 #[.val (.int p0), .val (.int p1), .val (.int p2), .val (.long lo), .second, .val (.int (p1 &&& (15 : Int32))), .val (.long wi), .second, .val (.long hi), .second, .unset, .unset, .unset, .unset, .unset] [(.long ((p2 &&& (8388607 : Int32)).toInt64))])) rfl (hb hby at_29) _ ?_
    show Steps p.tables e below (s₁.setTop (mkF m 32 #[.val (.int p0), .val (.int p1), .val (.int p2), .val (.long lo), .second, .val (.int (p1 &&& (15 : Int32))), .val (.long wi), .second, .val (.long hi), .second, .unset, .unset, .unset, .unset, .unset] [(.long (2097152 : Int64)), (.long ((p2 &&& (8388607 : Int32)).toInt64))])) _
    refine XS.lsub X0.here hx rfl (hb hby at_32) rfl ?_
    show Steps p.tables e below (s₁.setTop (mkF m 33 #[.val (.int p0), .val (.int p1), .val (.int p2), .val (.long lo), .second, .val (.int (p1 &&& (15 : Int32))), .val (.long wi), .second, .val (.long hi), .second, .unset, .unset, .unset, .unset, .unset] [(.long (((p2 &&& (8388607 : Int32)).toInt64) - (2097152 : Int64)))])) _
    rw [hv32]
    show Steps p.tables e below (s₁.setTop (mkF m 33 #[.val (.int p0), .val (.int p1), .val (.int p2), .val (.long lo), .second, .val (.int (p1 &&& (15 : Int32))), .val (.long wi), .second, .val (.long hi), .second, .unset, .unset, .unset, .unset, .unset] [(.long tt)])) _
    refine XS.lstore X0.here hx rfl (hb hby at_33) rfl (l' := #[.val (.int p0), .val (.int p1), .val (.int p2), .val (.long lo), .second, .val (.int (p1 &&& (15 : Int32))), .val (.long wi), .second, .val (.long hi), .second, .val (.long tt), .second, .unset, .unset, .unset]) rfl ?_
    show Steps p.tables e below (s₁.setTop (mkF m 35 #[.val (.int p0), .val (.int p1), .val (.int p2), .val (.long lo), .second, .val (.int (p1 &&& (15 : Int32))), .val (.long wi), .second, .val (.long hi), .second, .val (.long tt), .second, .unset, .unset, .unset] [])) _
    refine st1 _ ?_
    show Steps p.tables e below (T1.setTop (mkF m 38 #[.val (.int p0), .val (.int p1), .val (.int p2), .val (.long lo), .second, .val (.int (p1 &&& (15 : Int32))), .val (.long wi), .second, .val (.long hi), .second, .val (.long tt), .second, .unset, .unset, .unset] [(.ref b1)])) _
    refine XS.dup X1.here hx rfl (hb hby at_38) rfl rfl ?_
    show Steps p.tables e below (T1.setTop (mkF m 39 #[.val (.int p0), .val (.int p1), .val (.int p2), .val (.long lo), .second, .val (.int (p1 &&& (15 : Int32))), .val (.long wi), .second, .val (.long hi), .second, .val (.long tt), .second, .unset, .unset, .unset] [(.ref b1), (.ref b1)])) _
    refine XS.lloadN X1.here hx rfl (hb hby at_39) rfl ?_
    show Steps p.tables e below (T1.setTop (mkF m 40 #[.val (.int p0), .val (.int p1), .val (.int p2), .val (.long lo), .second, .val (.int (p1 &&& (15 : Int32))), .val (.long wi), .second, .val (.long hi), .second, .val (.long tt), .second, .unset, .unset, .unset] [(.long lo), (.ref b1), (.ref b1)])) _
    refine XS.l2dS X1.here hx rfl (hb hby at_40) rfl (v := (FP.l2d lo)) rfl ?_
    show Steps p.tables e below (T1.setTop (mkF m 41 #[.val (.int p0), .val (.int p1), .val (.int p2), .val (.long lo), .second, .val (.int (p1 &&& (15 : Int32))), .val (.long wi), .second, .val (.long hi), .second, .val (.long tt), .second, .unset, .unset, .unset] [(.double (FP.l2d lo)), (.ref b1), (.ref b1)])) _
    refine XS.lload X1.here hx rfl (hb hby at_41) rfl ?_
    show Steps p.tables e below (T1.setTop (mkF m 43 #[.val (.int p0), .val (.int p1), .val (.int p2), .val (.long lo), .second, .val (.int (p1 &&& (15 : Int32))), .val (.long wi), .second, .val (.long hi), .second, .val (.long tt), .second, .unset, .unset, .unset] [(.long hi), (.double (FP.l2d lo)), (.ref b1), (.ref b1)])) _
    refine XS.l2dS X1.here hx rfl (hb hby at_43) rfl (v := (FP.l2d hi)) rfl ?_
    show Steps p.tables e below (T1.setTop (mkF m 44 #[.val (.int p0), .val (.int p1), .val (.int p2), .val (.long lo), .second, .val (.int (p1 &&& (15 : Int32))), .val (.long wi), .second, .val (.long hi), .second, .val (.long tt), .second, .unset, .unset, .unset] [(.double (FP.l2d hi)), (.double (FP.l2d lo)), (.ref b1), (.ref b1)])) _
    refine st2.trans ?_
    show Steps p.tables e below (T2.setTop (mkF m 47 #[.val (.int p0), .val (.int p1), .val (.int p2), .val (.long lo), .second, .val (.int (p1 &&& (15 : Int32))), .val (.long wi), .second, .val (.long hi), .second, .val (.long tt), .second, .unset, .unset, .unset] [(.ref b1)])) _
    refine XS.astore X2.here hx rfl (hb hby at_47) rfl rfl (l' := #[.val (.int p0), .val (.int p1), .val (.int p2), .val (.long lo), .second, .val (.int (p1 &&& (15 : Int32))), .val (.long wi), .second, .val (.long hi), .second, .val (.long tt), .second, .val (.ref b1), .unset, .unset]) rfl ?_
    show Steps p.tables e below (T2.setTop (mkF m 49 #[.val (.int p0), .val (.int p1), .val (.int p2), .val (.long lo), .second, .val (.int (p1 &&& (15 : Int32))), .val (.long wi), .second, .val (.long hi), .second, .val (.long tt), .second, .val (.ref b1), .unset, .unset] [])) _
    refine XS.aload X2.here hx rfl (hb hby at_49) rfl rfl ?_
    show Steps p.tables e below (T2.setTop (mkF m 51 #[.val (.int p0), .val (.int p1), .val (.int p2), .val (.long lo), .second, .val (.int (p1 &&& (15 : Int32))), .val (.long wi), .second, .val (.long hi), .second, .val (.long tt), .second, .val (.ref b1), .unset, .unset] [(.ref b1)])) _
    refine XS.lload X2.here hx rfl (hb hby at_51) rfl ?_
    show Steps p.tables e below (T2.setTop (mkF m 53 #[.val (.int p0), .val (.int p1), .val (.int p2), .val (.long lo), .second, .val (.int (p1 &&& (15 : Int32))), .val (.long wi), .second, .val (.long hi), .second, .val (.long tt), .second, .val (.ref b1), .unset, .unset] [(.long tt), (.ref b1)])) _
    refine XS.l2dS X2.here hx rfl (hb hby at_53) rfl (v := (FP.l2d tt)) rfl ?_
    show Steps p.tables e below (T2.setTop (mkF m 54 #[.val (.int p0), .val (.int p1), .val (.int p2), .val (.long lo), .second, .val (.int (p1 &&& (15 : Int32))), .val (.long wi), .second, .val (.long hi), .second, .val (.long tt), .second, .val (.ref b1), .unset, .unset] [(.double (FP.l2d tt)), (.ref b1)])) _
    refine X2.ldc2DoubleC hx hown (mvT hZ (hw _ (List.mem_of_getElem? (i := 25) rfl))) (g := (mkF m 54 #[.val (.int p0), .val (.int p1), .val (.int p2), .val (.long lo), .second, .val (.int (p1 &&& (15 : Int32))), .val (.long wi), .second, .val (.long hi), .second, .val (.long tt), .second, .val (.ref b1), .unset, .unset] [(.double (FP.l2d tt)), (.ref b1)])) rfl (hb hby at_54) _ ?_
    show Steps p.tables e below (T2.setTop (mkF m 57 #[.val (.int p0), .val (.int p1), .val (.int p2), .val (.long lo), .second, .val (.int (p1 &&& (15 : Int32))), .val (.long wi), .second, .val (.long hi), .second, .val (.long tt), .second, .val (.ref b1), .unset, .unset] [(.double (4611686018427387904 : UInt64)), (.double (FP.l2d tt)), (.ref b1)])) _
    refine XS.ddivS X2.here hx rfl (hb hby at_57) rfl nn57 (v := t2) hq57 ?_
    show Steps p.tables e below (T2.setTop (mkF m 58 #[.val (.int p0), .val (.int p1), .val (.int p2), .val (.long lo), .second, .val (.int (p1 &&& (15 : Int32))), .val (.long wi), .second, .val (.long hi), .second, .val (.long tt), .second, .val (.ref b1), .unset, .unset] [(.double t2), (.ref b1)])) _
    refine st7.trans ?_
    show Steps p.tables e below (T7.setTop (mkF m 61 #[.val (.int p0), .val (.int p1), .val (.int p2), .val (.long lo), .second, .val (.int (p1 &&& (15 : Int32))), .val (.long wi), .second, .val (.long hi), .second, .val (.long tt), .second, .val (.ref b1), .unset, .unset] [(.double (0 : UInt64))])) _
    refine XS.dstore X7.here hx rfl (hb hby at_61) rfl (l' := #[.val (.int p0), .val (.int p1), .val (.int p2), .val (.long lo), .second, .val (.int (p1 &&& (15 : Int32))), .val (.long wi), .second, .val (.long hi), .second, .val (.long tt), .second, .val (.ref b1), .val (.double (0 : UInt64)), .second]) rfl ?_
    show Steps p.tables e below (T7.setTop (mkF m 63 #[.val (.int p0), .val (.int p1), .val (.int p2), .val (.long lo), .second, .val (.int (p1 &&& (15 : Int32))), .val (.long wi), .second, .val (.long hi), .second, .val (.long tt), .second, .val (.ref b1), .val (.double (0 : UInt64)), .second] [])) _
    refine XS.lload X7.here hx rfl (hb hby at_63) rfl ?_
    show Steps p.tables e below (T7.setTop (mkF m 65 #[.val (.int p0), .val (.int p1), .val (.int p2), .val (.long lo), .second, .val (.int (p1 &&& (15 : Int32))), .val (.long wi), .second, .val (.long hi), .second, .val (.long tt), .second, .val (.ref b1), .val (.double (0 : UInt64)), .second] [(.long tt)])) _
    refine X7.ldc2Long hx hown (mvT hZ (hw _ (List.mem_of_getElem? (i := 32) rfl))) (g := (mkF m 65 #[.val (.int p0), .val (.int p1), .val (.int p2), .val (.long lo), .second, .val (.int (p1 &&& (15 : Int32))), .val (.long wi), .second, .val (.long hi), .second, .val (.long tt), .second, .val (.ref b1), .val (.double (0 : UInt64)), .second] [(.long tt)])) rfl (hb hby at_65) _ ?_
    show Steps p.tables e below (T7.setTop (mkF m 68 #[.val (.int p0), .val (.int p1), .val (.int p2), .val (.long lo), .second, .val (.int (p1 &&& (15 : Int32))), .val (.long wi), .second, .val (.long hi), .second, .val (.long tt), .second, .val (.ref b1), .val (.double (0 : UInt64)), .second] [(.long (2 : Int64)), (.long tt)])) _
    refine XS.lloadN X7.here hx rfl (hb hby at_68) rfl ?_
    show Steps p.tables e below (T7.setTop (mkF m 69 #[.val (.int p0), .val (.int p1), .val (.int p2), .val (.long lo), .second, .val (.int (p1 &&& (15 : Int32))), .val (.long wi), .second, .val (.long hi), .second, .val (.long tt), .second, .val (.ref b1), .val (.double (0 : UInt64)), .second] [(.long lo), (.long (2 : Int64)), (.long tt)])) _
    refine XS.lmul X7.here hx rfl (hb hby at_69) rfl ?_
    show Steps p.tables e below (T7.setTop (mkF m 70 #[.val (.int p0), .val (.int p1), .val (.int p2), .val (.long lo), .second, .val (.int (p1 &&& (15 : Int32))), .val (.long wi), .second, .val (.long hi), .second, .val (.long tt), .second, .val (.ref b1), .val (.double (0 : UInt64)), .second] [(.long ((2 : Int64) * lo)), (.long tt)])) _
    refine XS.lcmp X7.here hx rfl (hb hby at_70) rfl ?_
    show Steps p.tables e below (T7.setTop (mkF m 71 #[.val (.int p0), .val (.int p1), .val (.int p2), .val (.long lo), .second, .val (.int (p1 &&& (15 : Int32))), .val (.long wi), .second, .val (.long hi), .second, .val (.long tt), .second, .val (.ref b1), .val (.double (0 : UInt64)), .second] [(.int (lcmpW tt ((2 : Int64) * lo)))])) _
    refine XS.ifYes X7.here hx rfl (pc0 := 71) (pc' := 95) rfl (hb hby at_71) rfl ((if0 _ _).trans (tlt hc71).2.2.1) (by decide) (by decide) ?_
    show Steps p.tables e below (T7.setTop (mkF m 95 #[.val (.int p0), .val (.int p1), .val (.int p2), .val (.long lo), .second, .val (.int (p1 &&& (15 : Int32))), .val (.long wi), .second, .val (.long hi), .second, .val (.long tt), .second, .val (.ref b1), .val (.double (0 : UInt64)), .second] [])) _
    refine XS.lload X7.here hx rfl (hb hby at_95) rfl ?_
    show Steps p.tables e below (T7.setTop (mkF m 97 #[.val (.int p0), .val (.int p1), .val (.int p2), .val (.long lo), .second, .val (.int (p1 &&& (15 : Int32))), .val (.long wi), .second, .val (.long hi), .second, .val (.long tt), .second, .val (.ref b1), .val (.double (0 : UInt64)), .second] [(.long tt)])) _
    refine X7.ldc2Long hx hown (mvT hZ (hw _ (List.mem_of_getElem? (i := 32) rfl))) (g := (mkF m 97 #[.val (.int p0), .val (.int p1), .val (.int p2), .val (.long lo), .second, .val (.int (p1 &&& (15 : Int32))), .val (.long wi), .second, .val (.long hi), .second, .val (.long tt), .second, .val (.ref b1), .val (.double (0 : UInt64)), .second] [(.long tt)])) rfl (hb hby at_97) _ ?_
    show Steps p.tables e below (T7.setTop (mkF m 100 #[.val (.int p0), .val (.int p1), .val (.int p2), .val (.long lo), .second, .val (.int (p1 &&& (15 : Int32))), .val (.long wi), .second, .val (.long hi), .second, .val (.long tt), .second, .val (.ref b1), .val (.double (0 : UInt64)), .second] [(.long (2 : Int64)), (.long tt)])) _
    refine XS.lload X7.here hx rfl (hb hby at_100) rfl ?_
    show Steps p.tables e below (T7.setTop (mkF m 102 #[.val (.int p0), .val (.int p1), .val (.int p2), .val (.long lo), .second, .val (.int (p1 &&& (15 : Int32))), .val (.long wi), .second, .val (.long hi), .second, .val (.long tt), .second, .val (.ref b1), .val (.double (0 : UInt64)), .second] [(.long hi), (.long (2 : Int64)), (.long tt)])) _
    refine XS.lmul X7.here hx rfl (hb hby at_102) rfl ?_
    show Steps p.tables e below (T7.setTop (mkF m 103 #[.val (.int p0), .val (.int p1), .val (.int p2), .val (.long lo), .second, .val (.int (p1 &&& (15 : Int32))), .val (.long wi), .second, .val (.long hi), .second, .val (.long tt), .second, .val (.ref b1), .val (.double (0 : UInt64)), .second] [(.long ((2 : Int64) * hi)), (.long tt)])) _
    refine XS.lcmp X7.here hx rfl (hb hby at_103) rfl ?_
    show Steps p.tables e below (T7.setTop (mkF m 104 #[.val (.int p0), .val (.int p1), .val (.int p2), .val (.long lo), .second, .val (.int (p1 &&& (15 : Int32))), .val (.long wi), .second, .val (.long hi), .second, .val (.long tt), .second, .val (.ref b1), .val (.double (0 : UInt64)), .second] [(.int (lcmpW tt ((2 : Int64) * hi)))])) _
    refine XS.ifNo X7.here hx rfl (hb hby at_104) rfl ((if0 _ _).trans (flt hc104).1) ?_
    show Steps p.tables e below (T7.setTop (mkF m 107 #[.val (.int p0), .val (.int p1), .val (.int p2), .val (.long lo), .second, .val (.int (p1 &&& (15 : Int32))), .val (.long wi), .second, .val (.long hi), .second, .val (.long tt), .second, .val (.ref b1), .val (.double (0 : UInt64)), .second] [])) _
    refine XS.dload X7.here hx rfl (hb hby at_107) rfl ?_
    show Steps p.tables e below (T7.setTop (mkF m 109 #[.val (.int p0), .val (.int p1), .val (.int p2), .val (.long lo), .second, .val (.int (p1 &&& (15 : Int32))), .val (.long wi), .second, .val (.long hi), .second, .val (.long tt), .second, .val (.ref b1), .val (.double (0 : UInt64)), .second] [(.double (0 : UInt64))])) _
    refine XS.dconst0 X7.here hx rfl (hb hby at_109) (v := (0 : UInt64)) rfl ?_
    show Steps p.tables e below (T7.setTop (mkF m 110 #[.val (.int p0), .val (.int p1), .val (.int p2), .val (.long lo), .second, .val (.int (p1 &&& (15 : Int32))), .val (.long wi), .second, .val (.long hi), .second, .val (.long tt), .second, .val (.ref b1), .val (.double (0 : UInt64)), .second] [(.double (0 : UInt64)), (.double (0 : UInt64))])) _
    refine XS.dcmpS X7.here hx rfl (hb hby at_110) rfl (v := (0 : Int32)) hd110 ?_
    show Steps p.tables e below (T7.setTop (mkF m 111 #[.val (.int p0), .val (.int p1), .val (.int p2), .val (.long lo), .second, .val (.int (p1 &&& (15 : Int32))), .val (.long wi), .second, .val (.long hi), .second, .val (.long tt), .second, .val (.ref b1), .val (.double (0 : UInt64)), .second] [(.int (0 : Int32))])) _
    refine XS.ifNo X7.here hx rfl (hb hby at_111) rfl ((if0 _ _).trans (teq (by decide : (0 : Int32) = (0 : Int32))).2) ?_
    show Steps p.tables e below (T7.setTop (mkF m 114 #[.val (.int p0), .val (.int p1), .val (.int p2), .val (.long lo), .second, .val (.int (p1 &&& (15 : Int32))), .val (.long wi), .second, .val (.long hi), .second, .val (.long tt), .second, .val (.ref b1), .val (.double (0 : UInt64)), .second] [])) _
    refine XS.iconst X7.here hx rfl (hb hby at_114) ?_
    show Steps p.tables e below (T7.setTop (mkF m 115 #[.val (.int p0), .val (.int p1), .val (.int p2), .val (.long lo), .second, .val (.int (p1 &&& (15 : Int32))), .val (.long wi), .second, .val (.long hi), .second, .val (.long tt), .second, .val (.ref b1), .val (.double (0 : UInt64)), .second] [(.int (1 : Int32))])) _
    refine XS.goto X7.here hx rfl (pc0 := 115) (pc' := 119) rfl (hb hby at_115) (by decide) (by decide) ?_
    show Steps p.tables e below (T7.setTop (mkF m 119 #[.val (.int p0), .val (.int p1), .val (.int p2), .val (.long lo), .second, .val (.int (p1 &&& (15 : Int32))), .val (.long wi), .second, .val (.long hi), .second, .val (.long tt), .second, .val (.ref b1), .val (.double (0 : UInt64)), .second] [(.int (1 : Int32))])) _
    exact retN X7 hx (t := .boolean) Bd.returns (by simp) (hb hby at_119) hr
  · show Q0 n0 _ T7.heap _
    rw [e7]
    exact ⟨rfl, N7⟩
set_option maxRecDepth 65536 in
set_option maxHeartbeats 40000000 in
theorem rm0C (l : Launch) (Z : State) (a0 : Array Value) (hw : ∀ d ∈ tables_1, d.before a0 Z = true) (ws : List Jvm.Cond) (p0 : Int32) (p1 : Int32) (p2 : Int32) (lo : Int64) (wi : Int64) (hi : Int64) (tt : Int64) (t2 : UInt64) (h0 : Heap) (n0 : Nat) (Z0 : n0 ≤ h0.size) (hv4 : ((p0 &&& (1048575 : Int32)).toInt64) = lo) (hv15 : ((1 : Int64) <<< ((p1 &&& (15 : Int32)) &&& 0x3f).toInt64) = wi) (hv21 : (lo + wi) = hi) (hv32 : (((p2 &&& (8388607 : Int32)).toInt64) - (2097152 : Int64)) = tt) (hc7_44 : ¬ ((cmpValue (FP.dcmp (FP.l2d lo) (0 : UInt64)) .l) < (0 : Int32))) (hc27_44 : (cmpValue (FP.dcmp (FP.l2d lo) (FP.l2d hi)) .g) < (0 : Int32)) (nna1_46_44 : Jvm.Free.Fl.NoNaN64 (FP.l2d hi)) (hd7_46_44 : (cmpValue (FP.dcmp ((FP.l2d hi) &&& 0x7fffffffffffffff) (9218868437227405311 : UInt64)) .g) = (-1 : Int32)) (nn57 : Jvm.Free.Fl.NoNaN64 (FP.ddiv (FP.l2d tt) (4611686018427387904 : UInt64))) (hq57 : (FP.ddiv (FP.l2d tt) (4611686018427387904 : UInt64)) = t2) (hc6_58 : (0 : Int32) < (cmpValue (FP.dcmp t2 (FP.l2d lo)) .g)) (hc36_58 : (cmpValue (FP.dcmp t2 (FP.l2d hi)) .l) < (0 : Int32)) (nn49_58 : Jvm.Free.Fl.NoNaN64 (FP.dsub (FP.l2d hi) t2)) (nn58_58 : Jvm.Free.Fl.NoNaN64 (FP.dsub (FP.l2d hi) (FP.l2d lo))) (nn59_58 : Jvm.Free.Fl.NoNaN64 (FP.ddiv (FP.dsub (FP.l2d hi) t2) (FP.dsub (FP.l2d hi) (FP.l2d lo)))) (nn64_58 : Jvm.Free.Fl.NoNaN64 (FP.ddiv t2 (4611686018427387904 : UInt64))) (nn72_58 : Jvm.Free.Fl.NoNaN64 (FP.ddiv (FP.l2d hi) (4611686018427387904 : UInt64))) (nn73_58 : Jvm.Free.Fl.NoNaN64 (FP.dadd (FP.ddiv t2 (4611686018427387904 : UInt64)) (FP.ddiv (FP.l2d hi) (4611686018427387904 : UInt64)))) (nn74_58 : Jvm.Free.Fl.NoNaN64 (FP.dmul (FP.ddiv (FP.dsub (FP.l2d hi) t2) (FP.dsub (FP.l2d hi) (FP.l2d lo))) (FP.dadd (FP.ddiv t2 (4611686018427387904 : UInt64)) (FP.ddiv (FP.l2d hi) (4611686018427387904 : UInt64))))) (hc71 : (0 : Int32) < (lcmpW tt ((2 : Int64) * lo))) (hc104 : (lcmpW tt ((2 : Int64) * hi)) < (0 : Int32)) (nn129 : Jvm.Free.Fl.NoNaN64 (FP.dmul (FP.dmul (FP.ddiv (FP.dsub (FP.l2d hi) t2) (FP.dsub (FP.l2d hi) (FP.l2d lo))) (FP.dadd (FP.ddiv t2 (4611686018427387904 : UInt64)) (FP.ddiv (FP.l2d hi) (4611686018427387904 : UInt64)))) (FP.l2d ((8 : Int64) * wi)))) (hd146 : (cmpValue (FP.dcmp (FP.dmul (FP.dmul (FP.ddiv (FP.dsub (FP.l2d hi) t2) (FP.dsub (FP.l2d hi) (FP.l2d lo))) (FP.dadd (FP.ddiv t2 (4611686018427387904 : UInt64)) (FP.ddiv (FP.l2d hi) (4611686018427387904 : UInt64)))) (FP.l2d ((8 : Int64) * wi))) (FP.l2d ((((4 : Int64) * hi) * hi) - (tt * tt)))) .l) = (0 : Int32)) :
    MetFree l x (head1 (Jvm.Cond.code x code maxLocals ret :: ws) room_1) (fun a U => a = #[(.int p0), (.int p1), (.int p2)] ∧ Z.Warmed39 U.vm ∧ U.heap = h0) (fun _ _ _ _ _ => True) (fun _ U o U' => ∃ v L, o = .returned v ∧ Q0 n0 v U'.heap L ∧ FrameEnd U o U' L room_1.cells room_1.slots) := by
  refine MetFree.of_bodySF (plainFor_of_name pn_com_example_arrivals_arrivals_core_UniformDistributionPartialMeanPinLaw) hisR ?_
  intro p e s m args below meth c s₁ Bd hml0 hP hK
  obtain ⟨rfl, hZ, hh⟩ := hP
  have hx := Bd.exec
  have hby := Bd.bytes
  have hml : c.maxLocals = 15 := hml0
  have hown : s.vm.findClass "com/example/arrivals/arrivals/core/UniformDistributionPartialMeanPinLaw" = some m.cls := findClass_of_methodNamed Bd.named
  have hnm := (name_of_methodNamed Bd.named Bd.method).1
  have X0 : Stand p l e room_1 s m #[(.int p0), (.int p1), (.int p2)] below meth c s₁ [] 0 0 := Stand.of_body Bd
  have e0 : s₁.heap = h0 := by rw [← hh, Bd.state]; rfl
  have N0 := Fr.nil n0
  have pre0 : ∀ t, Steps p.tables e below (s₁.setTop (mkF m 0 #[.val (.int p0), .val (.int p1), .val (.int p2), .unset, .unset, .unset, .unset, .unset, .unset, .unset, .unset, .unset, .unset, .unset, .unset] [])) t → Steps p.tables e below (s₁.setTop (entryFrame m #[(.int p0), (.int p1), (.int p2)] maxLocals)) t := fun t k => castTop (ef_0_III m p0 p1 p2) k
  obtain ⟨T1, h1, X1, e1, E1, A1, D1, -, st1⟩ := newO X0 hx hZ hown (hw _ (List.mem_of_getElem? (i := 3) rfl)) (hw _ (List.mem_of_getElem? (i := 4) rfl)) (hw _ (List.mem_of_getElem? (i := 5) rfl)) e0 (g := (mkF m 35 #[.val (.int p0), .val (.int p1), .val (.int p2), .val (.long lo), .second, .val (.int (p1 &&& (15 : Int32))), .val (.long wi), .second, .val (.long hi), .second, .val (.long tt), .second, .unset, .unset, .unset] [])) rfl (hb hby at_35) (by decide) (by decide)
  obtain ⟨b1, g1⟩ : ∃ z, z = h0.size := ⟨_, rfl⟩
  rw [← g1] at A1 D1 st1
  have g_b1 : n0 ≤ b1 := Nat.le_trans Z0 (Nat.le_of_eq g1.symm)
  have sz_b1 : h0.size ≤ b1 := Nat.le_trans (Keep.refl h0 []).1 (Nat.le_of_eq g1.symm)
  have K1 : Keep h0 h1 [] := (Keep.refl h0 []).ext E1
  have Zs1 := Nat.le_trans Z0 E1.1
  have F1_low : Fld Z h1 b1 "com/example/arrivals/arrivals/core/UniformDistribution" "low" "D" (.double (0 : UInt64)) := D1 (Or.inr (hw _ (List.mem_of_getElem? (i := 22) rfl))) (ty := .double) (by decide)
  have F1_high : Fld Z h1 b1 "com/example/arrivals/arrivals/core/UniformDistribution" "high" "D" (.double (0 : UInt64)) := D1 (Or.inr (hw _ (List.mem_of_getElem? (i := 24) rfl))) (ty := .double) (by decide)
  obtain ⟨_, _, ⟨T2, L2, k2, n2⟩, -, X2, ⟨Lc2, hQ2, l2, y2, z2⟩, st2⟩ := X1.specialBack hx (y := (⟨"com/example/arrivals/arrivals/core/UniformDistribution", "<init>", "(DD)V"⟩ : MethodName)) rfl hown (mvT hZ (hw _ (List.mem_of_getElem? (i := 6) rfl))) (mvT hZ (hw _ (List.mem_of_getElem? (i := 7) rfl))) (mvT hZ (hw _ (List.mem_of_getElem? (i := 8) rfl))) (by decide) (backOf (W := 1) (rm1 l Z a0 hw [] b1 (FP.l2d lo) (FP.l2d hi) h1 n0 Zs1 A1 F1_low F1_high g_b1 hc7_44 hc27_44 nna1_46_44 hd7_46_44) hZ (hw _ (List.mem_of_getElem? (i := 8) rfl)) (hw _ (List.mem_of_getElem? (i := 5) rfl)) (by decide) (by decide)) (g := (mkF m 44 #[.val (.int p0), .val (.int p1), .val (.int p2), .val (.long lo), .second, .val (.int (p1 &&& (15 : Int32))), .val (.long wi), .second, .val (.long hi), .second, .val (.long tt), .second, .unset, .unset, .unset] [(.double (FP.l2d hi)), (.double (FP.l2d lo)), (.ref b1), (.ref b1)])) rfl (by rw [hml]; rfl) (Steps.refl _) (a := b1) (argsL := [(.double (FP.l2d lo)), (.double (FP.l2d hi))]) (rest := [(.ref b1)]) (lenOf pd_2 rfl) rfl (by show 2 * 0 + _ ≤ _; exact Nat.le_of_eq rfl) (hb hby at_44) (fun _ _ => ⟨rfl, e1, (by decide : 1 + 0 ≤ _), (by decide : 2 + 0 ≤ _)⟩)
  dsimp only [Pt.U, Pt.locs, Pt.cells, Pt.slots] at X2 l2 y2 z2 st2 hQ2
  subst l2 y2 z2
  obtain ⟨rfl, N2q, K2q, f3, f4, f5⟩ := hQ2
  have N2 := Fr.app N0 N2q
  have f6 := A1.keep K2q
  have K2 : Keep h0 T2.heap [] := K1.trans K2q (own_allS (Or.inr sz_b1) own_all0)
  have Zs2 := Nat.le_trans Zs1 K2q.1
  obtain ⟨cq7, kq7, q7a, q7b, q7c⟩ := isOf hZ rfl f3
  obtain ⟨_, _, ⟨T7, L7, k7, n7⟩, -, X7, ⟨Lc7, hQ7, l7, y7, z7⟩, st7⟩ := X2.virtualBack hx (y := (⟨"com/example/arrivals/arrivals/core/UniformDistribution", "partialMean", "(D)D"⟩ : MethodName)) (z := (⟨"com/example/arrivals/arrivals/core/UniformDistribution", "partialMean", "(D)D"⟩ : MethodName)) hown (mvT hZ (hw _ (List.mem_of_getElem? (i := 26) rfl))) (mvT hZ (hw _ (List.mem_of_getElem? (i := 27) rfl))) (notFace_of_selects (args := #[]) (mvT hZ (hw _ (List.mem_of_getElem? (i := 29) rfl)))) (mvT hZ (hw _ (List.mem_of_getElem? (i := 29) rfl))) (mvT hZ (hw _ (List.mem_of_getElem? (i := 28) rfl))) (by decide) (backOf (W := 0) (rm5C l Z a0 hw [] b1 t2 (FP.l2d lo) (FP.l2d hi) T2.heap n0 Zs2 f4 f5 hc6_58 hc36_58 nn49_58 nn58_58 nn59_58 nn64_58 nn72_58 nn73_58 nn74_58) hZ (hw _ (List.mem_of_getElem? (i := 30) rfl)) (hw _ (List.mem_of_getElem? (i := 5) rfl)) (by decide) (by decide)) q7a q7c (g := (mkF m 58 #[.val (.int p0), .val (.int p1), .val (.int p2), .val (.long lo), .second, .val (.int (p1 &&& (15 : Int32))), .val (.long wi), .second, .val (.long hi), .second, .val (.long tt), .second, .val (.ref b1), .unset, .unset] [(.double t2), (.ref b1)])) rfl (by rw [hml]; rfl) (Steps.refl _) (argsL := [(.double t2)]) (rest := []) (lenOf pd_0 rfl) rfl (by show 2 * 0 + _ ≤ _; exact Nat.le_of_eq rfl) (hb hby at_58) (fun _ _ => ⟨rfl, rfl, (by decide : 1 + 0 ≤ _), (by decide : 2 + 0 ≤ _)⟩)
  dsimp only [Pt.U, Pt.locs, Pt.cells, Pt.slots] at X7 l7 y7 z7 st7 hQ7
  subst l7 y7 z7
  obtain ⟨rfl, N7q, eh7⟩ := hQ7
  have N7 := Fr.app N2 N7q
  have e7 : T7.heap = T2.heap := eh7
  obtain ⟨fs, hr, hrun, hended, hW, hsame⟩ := X7.leave (v := some (.int (1 : Int32))) (fun h => by rw [Bd.returns] at h; cases h)
  refine ⟨_, _, pre0 _ ?_, hrun, hended, _, _, rfl, ?_, ⟨_, rfl⟩, hW, hsame.mono (by decide) (by decide)⟩
  · show Steps p.tables e below (s₁.setTop (mkF m 0 #[.val (.int p0), .val (.int p1), .val (.int p2), .unset, .unset, .unset, .unset, .unset, .unset, .unset, .unset, .unset, .unset, .unset, .unset] [])) _
    refine XS.iloadN X0.here hx rfl (hb hby at_0) rfl ?_
    show Steps p.tables e below (s₁.setTop (mkF m 1 #[.val (.int p0), .val (.int p1), .val (.int p2), .unset, .unset, .unset, .unset, .unset, .unset, .unset, .unset, .unset, .unset, .unset, .unset] [(.int p0)])) _
    refine X0.ldcInt hx hown (mvT hZ (hw _ (List.mem_of_getElem? (i := 0) rfl))) (g := (mkF m 1 #[.val (.int p0), .val (.int p1), .val (.int p2), .unset, .unset, .unset, .unset, .unset, .unset, .unset, .unset, .unset, .unset, .unset, .unset] [(.int p0)])) rfl (hb hby at_1) _ ?_
    show Steps p.tables e below (s₁.setTop (mkF m 3 #[.val (.int p0), .val (.int p1), .val (.int p2), .unset, .unset, .unset, .unset, .unset, .unset, .unset, .unset, .unset, .unset, .unset, .unset] [(.int (1048575 : Int32)), (.int p0)])) _
    refine XS.iand X0.here hx rfl (hb hby at_3) rfl ?_
    show Steps p.tables e below (s₁.setTop (mkF m 4 #[.val (.int p0), .val (.int p1), .val (.int p2), .unset, .unset, .unset, .unset, .unset, .unset, .unset, .unset, .unset, .unset, .unset, .unset] [(.int (p0 &&& (1048575 : Int32)))])) _
    refine XS.i2l X0.here hx rfl (hb hby at_4) rfl ?_
    show Steps p.tables e below (s₁.setTop (mkF m 5 #[.val (.int p0), .val (.int p1), .val (.int p2), .unset, .unset, .unset, .unset, .unset, .unset, .unset, .unset, .unset, .unset, .unset, .unset] [(.long ((p0 &&& (1048575 : Int32)).toInt64))])) _
    rw [hv4]
    show Steps p.tables e below (s₁.setTop (mkF m 5 #[.val (.int p0), .val (.int p1), .val (.int p2), .unset, .unset, .unset, .unset, .unset, .unset, .unset, .unset, .unset, .unset, .unset, .unset] [(.long lo)])) _
    refine XS.lstoreN X0.here hx rfl (hb hby at_5) rfl (l' := #[.val (.int p0), .val (.int p1), .val (.int p2), .val (.long lo), .second, .unset, .unset, .unset, .unset, .unset, .unset, .unset, .unset, .unset, .unset]) rfl ?_
    show Steps p.tables e below (s₁.setTop (mkF m 6 #[.val (.int p0), .val (.int p1), .val (.int p2), .val (.long lo), .second, .unset, .unset, .unset, .unset, .unset, .unset, .unset, .unset, .unset, .unset] [])) _
    refine XS.iloadN X0.here hx rfl (hb hby at_6) rfl ?_
    show Steps p.tables e below (s₁.setTop (mkF m 7 #[.val (.int p0), .val (.int p1), .val (.int p2), .val (.long lo), .second, .unset, .unset, .unset, .unset, .unset, .unset, .unset, .unset, .unset, .unset] [(.int p1)])) _
    refine XS.bipush X0.here hx rfl (hb hby at_7) ?_
    show Steps p.tables e below (s₁.setTop (mkF m 9 #[.val (.int p0), .val (.int p1), .val (.int p2), .val (.long lo), .second, .unset, .unset, .unset, .unset, .unset, .unset, .unset, .unset, .unset, .unset] [(.int (15 : Int32)), (.int p1)])) _
    refine XS.iand X0.here hx rfl (hb hby at_9) rfl ?_
    show Steps p.tables e below (s₁.setTop (mkF m 10 #[.val (.int p0), .val (.int p1), .val (.int p2), .val (.long lo), .second, .unset, .unset, .unset, .unset, .unset, .unset, .unset, .unset, .unset, .unset] [(.int (p1 &&& (15 : Int32)))])) _
    refine XS.istore X0.here hx rfl (hb hby at_10) rfl (l' := #[.val (.int p0), .val (.int p1), .val (.int p2), .val (.long lo), .second, .val (.int (p1 &&& (15 : Int32))), .unset, .unset, .unset, .unset, .unset, .unset, .unset, .unset, .unset]) rfl ?_
    show Steps p.tables e below (s₁.setTop (mkF m 12 #[.val (.int p0), .val (.int p1), .val (.int p2), .val (.long lo), .second, .val (.int (p1 &&& (15 : Int32))), .unset, .unset, .unset, .unset, .unset, .unset, .unset, .unset, .unset] [])) _
    refine XS.lconst X0.here hx rfl (hb hby at_12) ?_
    show Steps p.tables e below (s₁.setTop (mkF m 13 #[.val (.int p0), .val (.int p1), .val (.int p2), .val (.long lo), .second, .val (.int (p1 &&& (15 : Int32))), .unset, .unset, .unset, .unset, .unset, .unset, .unset, .unset, .unset] [(.long (1 : Int64))])) _
    refine XS.iload X0.here hx rfl (hb hby at_13) rfl ?_
    show Steps p.tables e below (s₁.setTop (mkF m 15 #[.val (.int p0), .val (.int p1), .val (.int p2), .val (.long lo), .second, .val (.int (p1 &&& (15 : Int32))), .unset, .unset, .unset, .unset, .unset, .unset, .unset, .unset, .unset] [(.int (p1 &&& (15 : Int32))), (.long (1 : Int64))])) _
    refine XS.lshl X0.here hx rfl (hb hby at_15) rfl ?_
    show Steps p.tables e below (s₁.setTop (mkF m 16 #[.val (.int p0), .val (.int p1), .val (.int p2), .val (.long lo), .second, .val (.int (p1 &&& (15 : Int32))), .unset, .unset, .unset, .unset, .unset, .unset, .unset, .unset, .unset] [(.long ((1 : Int64) <<< ((p1 &&& (15 : Int32)) &&& 0x3f).toInt64))])) _
    rw [hv15]
    show Steps p.tables e below (s₁.setTop (mkF m 16 #[.val (.int p0), .val (.int p1), .val (.int p2), .val (.long lo), .second, .val (.int (p1 &&& (15 : Int32))), .unset, .unset, .unset, .unset, .unset, .unset, .unset, .unset, .unset] [(.long wi)])) _
    refine XS.lstore X0.here hx rfl (hb hby at_16) rfl (l' := #[.val (.int p0), .val (.int p1), .val (.int p2), .val (.long lo), .second, .val (.int (p1 &&& (15 : Int32))), .val (.long wi), .second, .unset, .unset, .unset, .unset, .unset, .unset, .unset]) rfl ?_
    show Steps p.tables e below (s₁.setTop (mkF m 18 #[.val (.int p0), .val (.int p1), .val (.int p2), .val (.long lo), .second, .val (.int (p1 &&& (15 : Int32))), .val (.long wi), .second, .unset, .unset, .unset, .unset, .unset, .unset, .unset] [])) _
    refine XS.lloadN X0.here hx rfl (hb hby at_18) rfl ?_
    show Steps p.tables e below (s₁.setTop (mkF m 19 #[.val (.int p0), .val (.int p1), .val (.int p2), .val (.long lo), .second, .val (.int (p1 &&& (15 : Int32))), .val (.long wi), .second, .unset, .unset, .unset, .unset, .unset, .unset, .unset] [(.long lo)])) _
    refine XS.lload X0.here hx rfl (hb hby at_19) rfl ?_
    show Steps p.tables e below (s₁.setTop (mkF m 21 #[.val (.int p0), .val (.int p1), .val (.int p2), .val (.long lo), .second, .val (.int (p1 &&& (15 : Int32))), .val (.long wi), .second, .unset, .unset, .unset, .unset, .unset, .unset, .unset] [(.long wi), (.long lo)])) _
    refine XS.ladd X0.here hx rfl (hb hby at_21) rfl ?_
    show Steps p.tables e below (s₁.setTop (mkF m 22 #[.val (.int p0), .val (.int p1), .val (.int p2), .val (.long lo), .second, .val (.int (p1 &&& (15 : Int32))), .val (.long wi), .second, .unset, .unset, .unset, .unset, .unset, .unset, .unset] [(.long (lo + wi))])) _
    rw [hv21]
    show Steps p.tables e below (s₁.setTop (mkF m 22 #[.val (.int p0), .val (.int p1), .val (.int p2), .val (.long lo), .second, .val (.int (p1 &&& (15 : Int32))), .val (.long wi), .second, .unset, .unset, .unset, .unset, .unset, .unset, .unset] [(.long hi)])) _
    refine XS.lstore X0.here hx rfl (hb hby at_22) rfl (l' := #[.val (.int p0), .val (.int p1), .val (.int p2), .val (.long lo), .second, .val (.int (p1 &&& (15 : Int32))), .val (.long wi), .second, .val (.long hi), .second, .unset, .unset, .unset, .unset, .unset]) rfl ?_
    show Steps p.tables e below (s₁.setTop (mkF m 24 #[.val (.int p0), .val (.int p1), .val (.int p2), .val (.long lo), .second, .val (.int (p1 &&& (15 : Int32))), .val (.long wi), .second, .val (.long hi), .second, .unset, .unset, .unset, .unset, .unset] [])) _
    refine XS.iloadN X0.here hx rfl (hb hby at_24) rfl ?_
    show Steps p.tables e below (s₁.setTop (mkF m 25 #[.val (.int p0), .val (.int p1), .val (.int p2), .val (.long lo), .second, .val (.int (p1 &&& (15 : Int32))), .val (.long wi), .second, .val (.long hi), .second, .unset, .unset, .unset, .unset, .unset] [(.int p2)])) _
    refine X0.ldcInt hx hown (mvT hZ (hw _ (List.mem_of_getElem? (i := 1) rfl))) (g := (mkF m 25 #[.val (.int p0), .val (.int p1), .val (.int p2), .val (.long lo), .second, .val (.int (p1 &&& (15 : Int32))), .val (.long wi), .second, .val (.long hi), .second, .unset, .unset, .unset, .unset, .unset] [(.int p2)])) rfl (hb hby at_25) _ ?_
    show Steps p.tables e below (s₁.setTop (mkF m 27 #[.val (.int p0), .val (.int p1), .val (.int p2), .val (.long lo), .second, .val (.int (p1 &&& (15 : Int32))), .val (.long wi), .second, .val (.long hi), .second, .unset, .unset, .unset, .unset, .unset] [(.int (8388607 : Int32)), (.int p2)])) _
    refine XS.iand X0.here hx rfl (hb hby at_27) rfl ?_
    show Steps p.tables e below (s₁.setTop (mkF m 28 #[.val (.int p0), .val (.int p1), .val (.int p2), .val (.long lo), .second, .val (.int (p1 &&& (15 : Int32))), .val (.long wi), .second, .val (.long hi), .second, .unset, .unset, .unset, .unset, .unset] [(.int (p2 &&& (8388607 : Int32)))])) _
    refine XS.i2l X0.here hx rfl (hb hby at_28) rfl ?_
    show Steps p.tables e below (s₁.setTop (mkF m 29 #[.val (.int p0), .val (.int p1), .val (.int p2), .val (.long lo), .second, .val (.int (p1 &&& (15 : Int32))), .val (.long wi), .second, .val (.long hi), .second, .unset, .unset, .unset, .unset, .unset] [(.long ((p2 &&& (8388607 : Int32)).toInt64))])) _
    refine X0.ldc2Long hx hown (mvT hZ (hw _ (List.mem_of_getElem? (i := 2) rfl))) (g := (mkF m 29 #[.val (.int p0), .val (.int p1), .val (.int p2), .val (.long lo), .second, .val (.int (p1 &&& (15 : Int32))), .val (.long wi), .second, .val (.long hi), .second, .unset, .unset, .unset, .unset, .unset] [(.long ((p2 &&& (8388607 : Int32)).toInt64))])) rfl (hb hby at_29) _ ?_
    show Steps p.tables e below (s₁.setTop (mkF m 32 #[.val (.int p0), .val (.int p1), .val (.int p2), .val (.long lo), .second, .val (.int (p1 &&& (15 : Int32))), .val (.long wi), .second, .val (.long hi), .second, .unset, .unset, .unset, .unset, .unset] [(.long (2097152 : Int64)), (.long ((p2 &&& (8388607 : Int32)).toInt64))])) _
    refine XS.lsub X0.here hx rfl (hb hby at_32) rfl ?_
    show Steps p.tables e below (s₁.setTop (mkF m 33 #[.val (.int p0), .val (.int p1), .val (.int p2), .val (.long lo), .second, .val (.int (p1 &&& (15 : Int32))), .val (.long wi), .second, .val (.long hi), .second, .unset, .unset, .unset, .unset, .unset] [(.long (((p2 &&& (8388607 : Int32)).toInt64) - (2097152 : Int64)))])) _
    rw [hv32]
    show Steps p.tables e below (s₁.setTop (mkF m 33 #[.val (.int p0), .val (.int p1), .val (.int p2), .val (.long lo), .second, .val (.int (p1 &&& (15 : Int32))), .val (.long wi), .second, .val (.long hi), .second, .unset, .unset, .unset, .unset, .unset] [(.long tt)])) _
    refine XS.lstore X0.here hx rfl (hb hby at_33) rfl (l' := #[.val (.int p0), .val (.int p1), .val (.int p2), .val (.long lo), .second, .val (.int (p1 &&& (15 : Int32))), .val (.long wi), .second, .val (.long hi), .second, .val (.long tt), .second, .unset, .unset, .unset]) rfl ?_
    show Steps p.tables e below (s₁.setTop (mkF m 35 #[.val (.int p0), .val (.int p1), .val (.int p2), .val (.long lo), .second, .val (.int (p1 &&& (15 : Int32))), .val (.long wi), .second, .val (.long hi), .second, .val (.long tt), .second, .unset, .unset, .unset] [])) _
    refine st1 _ ?_
    show Steps p.tables e below (T1.setTop (mkF m 38 #[.val (.int p0), .val (.int p1), .val (.int p2), .val (.long lo), .second, .val (.int (p1 &&& (15 : Int32))), .val (.long wi), .second, .val (.long hi), .second, .val (.long tt), .second, .unset, .unset, .unset] [(.ref b1)])) _
    refine XS.dup X1.here hx rfl (hb hby at_38) rfl rfl ?_
    show Steps p.tables e below (T1.setTop (mkF m 39 #[.val (.int p0), .val (.int p1), .val (.int p2), .val (.long lo), .second, .val (.int (p1 &&& (15 : Int32))), .val (.long wi), .second, .val (.long hi), .second, .val (.long tt), .second, .unset, .unset, .unset] [(.ref b1), (.ref b1)])) _
    refine XS.lloadN X1.here hx rfl (hb hby at_39) rfl ?_
    show Steps p.tables e below (T1.setTop (mkF m 40 #[.val (.int p0), .val (.int p1), .val (.int p2), .val (.long lo), .second, .val (.int (p1 &&& (15 : Int32))), .val (.long wi), .second, .val (.long hi), .second, .val (.long tt), .second, .unset, .unset, .unset] [(.long lo), (.ref b1), (.ref b1)])) _
    refine XS.l2dS X1.here hx rfl (hb hby at_40) rfl (v := (FP.l2d lo)) rfl ?_
    show Steps p.tables e below (T1.setTop (mkF m 41 #[.val (.int p0), .val (.int p1), .val (.int p2), .val (.long lo), .second, .val (.int (p1 &&& (15 : Int32))), .val (.long wi), .second, .val (.long hi), .second, .val (.long tt), .second, .unset, .unset, .unset] [(.double (FP.l2d lo)), (.ref b1), (.ref b1)])) _
    refine XS.lload X1.here hx rfl (hb hby at_41) rfl ?_
    show Steps p.tables e below (T1.setTop (mkF m 43 #[.val (.int p0), .val (.int p1), .val (.int p2), .val (.long lo), .second, .val (.int (p1 &&& (15 : Int32))), .val (.long wi), .second, .val (.long hi), .second, .val (.long tt), .second, .unset, .unset, .unset] [(.long hi), (.double (FP.l2d lo)), (.ref b1), (.ref b1)])) _
    refine XS.l2dS X1.here hx rfl (hb hby at_43) rfl (v := (FP.l2d hi)) rfl ?_
    show Steps p.tables e below (T1.setTop (mkF m 44 #[.val (.int p0), .val (.int p1), .val (.int p2), .val (.long lo), .second, .val (.int (p1 &&& (15 : Int32))), .val (.long wi), .second, .val (.long hi), .second, .val (.long tt), .second, .unset, .unset, .unset] [(.double (FP.l2d hi)), (.double (FP.l2d lo)), (.ref b1), (.ref b1)])) _
    refine st2.trans ?_
    show Steps p.tables e below (T2.setTop (mkF m 47 #[.val (.int p0), .val (.int p1), .val (.int p2), .val (.long lo), .second, .val (.int (p1 &&& (15 : Int32))), .val (.long wi), .second, .val (.long hi), .second, .val (.long tt), .second, .unset, .unset, .unset] [(.ref b1)])) _
    refine XS.astore X2.here hx rfl (hb hby at_47) rfl rfl (l' := #[.val (.int p0), .val (.int p1), .val (.int p2), .val (.long lo), .second, .val (.int (p1 &&& (15 : Int32))), .val (.long wi), .second, .val (.long hi), .second, .val (.long tt), .second, .val (.ref b1), .unset, .unset]) rfl ?_
    show Steps p.tables e below (T2.setTop (mkF m 49 #[.val (.int p0), .val (.int p1), .val (.int p2), .val (.long lo), .second, .val (.int (p1 &&& (15 : Int32))), .val (.long wi), .second, .val (.long hi), .second, .val (.long tt), .second, .val (.ref b1), .unset, .unset] [])) _
    refine XS.aload X2.here hx rfl (hb hby at_49) rfl rfl ?_
    show Steps p.tables e below (T2.setTop (mkF m 51 #[.val (.int p0), .val (.int p1), .val (.int p2), .val (.long lo), .second, .val (.int (p1 &&& (15 : Int32))), .val (.long wi), .second, .val (.long hi), .second, .val (.long tt), .second, .val (.ref b1), .unset, .unset] [(.ref b1)])) _
    refine XS.lload X2.here hx rfl (hb hby at_51) rfl ?_
    show Steps p.tables e below (T2.setTop (mkF m 53 #[.val (.int p0), .val (.int p1), .val (.int p2), .val (.long lo), .second, .val (.int (p1 &&& (15 : Int32))), .val (.long wi), .second, .val (.long hi), .second, .val (.long tt), .second, .val (.ref b1), .unset, .unset] [(.long tt), (.ref b1)])) _
    refine XS.l2dS X2.here hx rfl (hb hby at_53) rfl (v := (FP.l2d tt)) rfl ?_
    show Steps p.tables e below (T2.setTop (mkF m 54 #[.val (.int p0), .val (.int p1), .val (.int p2), .val (.long lo), .second, .val (.int (p1 &&& (15 : Int32))), .val (.long wi), .second, .val (.long hi), .second, .val (.long tt), .second, .val (.ref b1), .unset, .unset] [(.double (FP.l2d tt)), (.ref b1)])) _
    refine X2.ldc2DoubleC hx hown (mvT hZ (hw _ (List.mem_of_getElem? (i := 25) rfl))) (g := (mkF m 54 #[.val (.int p0), .val (.int p1), .val (.int p2), .val (.long lo), .second, .val (.int (p1 &&& (15 : Int32))), .val (.long wi), .second, .val (.long hi), .second, .val (.long tt), .second, .val (.ref b1), .unset, .unset] [(.double (FP.l2d tt)), (.ref b1)])) rfl (hb hby at_54) _ ?_
    show Steps p.tables e below (T2.setTop (mkF m 57 #[.val (.int p0), .val (.int p1), .val (.int p2), .val (.long lo), .second, .val (.int (p1 &&& (15 : Int32))), .val (.long wi), .second, .val (.long hi), .second, .val (.long tt), .second, .val (.ref b1), .unset, .unset] [(.double (4611686018427387904 : UInt64)), (.double (FP.l2d tt)), (.ref b1)])) _
    refine XS.ddivS X2.here hx rfl (hb hby at_57) rfl nn57 (v := t2) hq57 ?_
    show Steps p.tables e below (T2.setTop (mkF m 58 #[.val (.int p0), .val (.int p1), .val (.int p2), .val (.long lo), .second, .val (.int (p1 &&& (15 : Int32))), .val (.long wi), .second, .val (.long hi), .second, .val (.long tt), .second, .val (.ref b1), .unset, .unset] [(.double t2), (.ref b1)])) _
    refine st7.trans ?_
    show Steps p.tables e below (T7.setTop (mkF m 61 #[.val (.int p0), .val (.int p1), .val (.int p2), .val (.long lo), .second, .val (.int (p1 &&& (15 : Int32))), .val (.long wi), .second, .val (.long hi), .second, .val (.long tt), .second, .val (.ref b1), .unset, .unset] [(.double (FP.dmul (FP.ddiv (FP.dsub (FP.l2d hi) t2) (FP.dsub (FP.l2d hi) (FP.l2d lo))) (FP.dadd (FP.ddiv t2 (4611686018427387904 : UInt64)) (FP.ddiv (FP.l2d hi) (4611686018427387904 : UInt64)))))])) _
    refine XS.dstore X7.here hx rfl (hb hby at_61) rfl (l' := #[.val (.int p0), .val (.int p1), .val (.int p2), .val (.long lo), .second, .val (.int (p1 &&& (15 : Int32))), .val (.long wi), .second, .val (.long hi), .second, .val (.long tt), .second, .val (.ref b1), .val (.double (FP.dmul (FP.ddiv (FP.dsub (FP.l2d hi) t2) (FP.dsub (FP.l2d hi) (FP.l2d lo))) (FP.dadd (FP.ddiv t2 (4611686018427387904 : UInt64)) (FP.ddiv (FP.l2d hi) (4611686018427387904 : UInt64))))), .second]) rfl ?_
    show Steps p.tables e below (T7.setTop (mkF m 63 #[.val (.int p0), .val (.int p1), .val (.int p2), .val (.long lo), .second, .val (.int (p1 &&& (15 : Int32))), .val (.long wi), .second, .val (.long hi), .second, .val (.long tt), .second, .val (.ref b1), .val (.double (FP.dmul (FP.ddiv (FP.dsub (FP.l2d hi) t2) (FP.dsub (FP.l2d hi) (FP.l2d lo))) (FP.dadd (FP.ddiv t2 (4611686018427387904 : UInt64)) (FP.ddiv (FP.l2d hi) (4611686018427387904 : UInt64))))), .second] [])) _
    refine XS.lload X7.here hx rfl (hb hby at_63) rfl ?_
    show Steps p.tables e below (T7.setTop (mkF m 65 #[.val (.int p0), .val (.int p1), .val (.int p2), .val (.long lo), .second, .val (.int (p1 &&& (15 : Int32))), .val (.long wi), .second, .val (.long hi), .second, .val (.long tt), .second, .val (.ref b1), .val (.double (FP.dmul (FP.ddiv (FP.dsub (FP.l2d hi) t2) (FP.dsub (FP.l2d hi) (FP.l2d lo))) (FP.dadd (FP.ddiv t2 (4611686018427387904 : UInt64)) (FP.ddiv (FP.l2d hi) (4611686018427387904 : UInt64))))), .second] [(.long tt)])) _
    refine X7.ldc2Long hx hown (mvT hZ (hw _ (List.mem_of_getElem? (i := 32) rfl))) (g := (mkF m 65 #[.val (.int p0), .val (.int p1), .val (.int p2), .val (.long lo), .second, .val (.int (p1 &&& (15 : Int32))), .val (.long wi), .second, .val (.long hi), .second, .val (.long tt), .second, .val (.ref b1), .val (.double (FP.dmul (FP.ddiv (FP.dsub (FP.l2d hi) t2) (FP.dsub (FP.l2d hi) (FP.l2d lo))) (FP.dadd (FP.ddiv t2 (4611686018427387904 : UInt64)) (FP.ddiv (FP.l2d hi) (4611686018427387904 : UInt64))))), .second] [(.long tt)])) rfl (hb hby at_65) _ ?_
    show Steps p.tables e below (T7.setTop (mkF m 68 #[.val (.int p0), .val (.int p1), .val (.int p2), .val (.long lo), .second, .val (.int (p1 &&& (15 : Int32))), .val (.long wi), .second, .val (.long hi), .second, .val (.long tt), .second, .val (.ref b1), .val (.double (FP.dmul (FP.ddiv (FP.dsub (FP.l2d hi) t2) (FP.dsub (FP.l2d hi) (FP.l2d lo))) (FP.dadd (FP.ddiv t2 (4611686018427387904 : UInt64)) (FP.ddiv (FP.l2d hi) (4611686018427387904 : UInt64))))), .second] [(.long (2 : Int64)), (.long tt)])) _
    refine XS.lloadN X7.here hx rfl (hb hby at_68) rfl ?_
    show Steps p.tables e below (T7.setTop (mkF m 69 #[.val (.int p0), .val (.int p1), .val (.int p2), .val (.long lo), .second, .val (.int (p1 &&& (15 : Int32))), .val (.long wi), .second, .val (.long hi), .second, .val (.long tt), .second, .val (.ref b1), .val (.double (FP.dmul (FP.ddiv (FP.dsub (FP.l2d hi) t2) (FP.dsub (FP.l2d hi) (FP.l2d lo))) (FP.dadd (FP.ddiv t2 (4611686018427387904 : UInt64)) (FP.ddiv (FP.l2d hi) (4611686018427387904 : UInt64))))), .second] [(.long lo), (.long (2 : Int64)), (.long tt)])) _
    refine XS.lmul X7.here hx rfl (hb hby at_69) rfl ?_
    show Steps p.tables e below (T7.setTop (mkF m 70 #[.val (.int p0), .val (.int p1), .val (.int p2), .val (.long lo), .second, .val (.int (p1 &&& (15 : Int32))), .val (.long wi), .second, .val (.long hi), .second, .val (.long tt), .second, .val (.ref b1), .val (.double (FP.dmul (FP.ddiv (FP.dsub (FP.l2d hi) t2) (FP.dsub (FP.l2d hi) (FP.l2d lo))) (FP.dadd (FP.ddiv t2 (4611686018427387904 : UInt64)) (FP.ddiv (FP.l2d hi) (4611686018427387904 : UInt64))))), .second] [(.long ((2 : Int64) * lo)), (.long tt)])) _
    refine XS.lcmp X7.here hx rfl (hb hby at_70) rfl ?_
    show Steps p.tables e below (T7.setTop (mkF m 71 #[.val (.int p0), .val (.int p1), .val (.int p2), .val (.long lo), .second, .val (.int (p1 &&& (15 : Int32))), .val (.long wi), .second, .val (.long hi), .second, .val (.long tt), .second, .val (.ref b1), .val (.double (FP.dmul (FP.ddiv (FP.dsub (FP.l2d hi) t2) (FP.dsub (FP.l2d hi) (FP.l2d lo))) (FP.dadd (FP.ddiv t2 (4611686018427387904 : UInt64)) (FP.ddiv (FP.l2d hi) (4611686018427387904 : UInt64))))), .second] [(.int (lcmpW tt ((2 : Int64) * lo)))])) _
    refine XS.ifYes X7.here hx rfl (pc0 := 71) (pc' := 95) rfl (hb hby at_71) rfl ((if0 _ _).trans (tlt hc71).2.2.1) (by decide) (by decide) ?_
    show Steps p.tables e below (T7.setTop (mkF m 95 #[.val (.int p0), .val (.int p1), .val (.int p2), .val (.long lo), .second, .val (.int (p1 &&& (15 : Int32))), .val (.long wi), .second, .val (.long hi), .second, .val (.long tt), .second, .val (.ref b1), .val (.double (FP.dmul (FP.ddiv (FP.dsub (FP.l2d hi) t2) (FP.dsub (FP.l2d hi) (FP.l2d lo))) (FP.dadd (FP.ddiv t2 (4611686018427387904 : UInt64)) (FP.ddiv (FP.l2d hi) (4611686018427387904 : UInt64))))), .second] [])) _
    refine XS.lload X7.here hx rfl (hb hby at_95) rfl ?_
    show Steps p.tables e below (T7.setTop (mkF m 97 #[.val (.int p0), .val (.int p1), .val (.int p2), .val (.long lo), .second, .val (.int (p1 &&& (15 : Int32))), .val (.long wi), .second, .val (.long hi), .second, .val (.long tt), .second, .val (.ref b1), .val (.double (FP.dmul (FP.ddiv (FP.dsub (FP.l2d hi) t2) (FP.dsub (FP.l2d hi) (FP.l2d lo))) (FP.dadd (FP.ddiv t2 (4611686018427387904 : UInt64)) (FP.ddiv (FP.l2d hi) (4611686018427387904 : UInt64))))), .second] [(.long tt)])) _
    refine X7.ldc2Long hx hown (mvT hZ (hw _ (List.mem_of_getElem? (i := 32) rfl))) (g := (mkF m 97 #[.val (.int p0), .val (.int p1), .val (.int p2), .val (.long lo), .second, .val (.int (p1 &&& (15 : Int32))), .val (.long wi), .second, .val (.long hi), .second, .val (.long tt), .second, .val (.ref b1), .val (.double (FP.dmul (FP.ddiv (FP.dsub (FP.l2d hi) t2) (FP.dsub (FP.l2d hi) (FP.l2d lo))) (FP.dadd (FP.ddiv t2 (4611686018427387904 : UInt64)) (FP.ddiv (FP.l2d hi) (4611686018427387904 : UInt64))))), .second] [(.long tt)])) rfl (hb hby at_97) _ ?_
    show Steps p.tables e below (T7.setTop (mkF m 100 #[.val (.int p0), .val (.int p1), .val (.int p2), .val (.long lo), .second, .val (.int (p1 &&& (15 : Int32))), .val (.long wi), .second, .val (.long hi), .second, .val (.long tt), .second, .val (.ref b1), .val (.double (FP.dmul (FP.ddiv (FP.dsub (FP.l2d hi) t2) (FP.dsub (FP.l2d hi) (FP.l2d lo))) (FP.dadd (FP.ddiv t2 (4611686018427387904 : UInt64)) (FP.ddiv (FP.l2d hi) (4611686018427387904 : UInt64))))), .second] [(.long (2 : Int64)), (.long tt)])) _
    refine XS.lload X7.here hx rfl (hb hby at_100) rfl ?_
    show Steps p.tables e below (T7.setTop (mkF m 102 #[.val (.int p0), .val (.int p1), .val (.int p2), .val (.long lo), .second, .val (.int (p1 &&& (15 : Int32))), .val (.long wi), .second, .val (.long hi), .second, .val (.long tt), .second, .val (.ref b1), .val (.double (FP.dmul (FP.ddiv (FP.dsub (FP.l2d hi) t2) (FP.dsub (FP.l2d hi) (FP.l2d lo))) (FP.dadd (FP.ddiv t2 (4611686018427387904 : UInt64)) (FP.ddiv (FP.l2d hi) (4611686018427387904 : UInt64))))), .second] [(.long hi), (.long (2 : Int64)), (.long tt)])) _
    refine XS.lmul X7.here hx rfl (hb hby at_102) rfl ?_
    show Steps p.tables e below (T7.setTop (mkF m 103 #[.val (.int p0), .val (.int p1), .val (.int p2), .val (.long lo), .second, .val (.int (p1 &&& (15 : Int32))), .val (.long wi), .second, .val (.long hi), .second, .val (.long tt), .second, .val (.ref b1), .val (.double (FP.dmul (FP.ddiv (FP.dsub (FP.l2d hi) t2) (FP.dsub (FP.l2d hi) (FP.l2d lo))) (FP.dadd (FP.ddiv t2 (4611686018427387904 : UInt64)) (FP.ddiv (FP.l2d hi) (4611686018427387904 : UInt64))))), .second] [(.long ((2 : Int64) * hi)), (.long tt)])) _
    refine XS.lcmp X7.here hx rfl (hb hby at_103) rfl ?_
    show Steps p.tables e below (T7.setTop (mkF m 104 #[.val (.int p0), .val (.int p1), .val (.int p2), .val (.long lo), .second, .val (.int (p1 &&& (15 : Int32))), .val (.long wi), .second, .val (.long hi), .second, .val (.long tt), .second, .val (.ref b1), .val (.double (FP.dmul (FP.ddiv (FP.dsub (FP.l2d hi) t2) (FP.dsub (FP.l2d hi) (FP.l2d lo))) (FP.dadd (FP.ddiv t2 (4611686018427387904 : UInt64)) (FP.ddiv (FP.l2d hi) (4611686018427387904 : UInt64))))), .second] [(.int (lcmpW tt ((2 : Int64) * hi)))])) _
    refine XS.ifYes X7.here hx rfl (pc0 := 104) (pc' := 120) rfl (hb hby at_104) rfl ((if0 _ _).trans (tlt hc104).1) (by decide) (by decide) ?_
    show Steps p.tables e below (T7.setTop (mkF m 120 #[.val (.int p0), .val (.int p1), .val (.int p2), .val (.long lo), .second, .val (.int (p1 &&& (15 : Int32))), .val (.long wi), .second, .val (.long hi), .second, .val (.long tt), .second, .val (.ref b1), .val (.double (FP.dmul (FP.ddiv (FP.dsub (FP.l2d hi) t2) (FP.dsub (FP.l2d hi) (FP.l2d lo))) (FP.dadd (FP.ddiv t2 (4611686018427387904 : UInt64)) (FP.ddiv (FP.l2d hi) (4611686018427387904 : UInt64))))), .second] [])) _
    refine XS.dload X7.here hx rfl (hb hby at_120) rfl ?_
    show Steps p.tables e below (T7.setTop (mkF m 122 #[.val (.int p0), .val (.int p1), .val (.int p2), .val (.long lo), .second, .val (.int (p1 &&& (15 : Int32))), .val (.long wi), .second, .val (.long hi), .second, .val (.long tt), .second, .val (.ref b1), .val (.double (FP.dmul (FP.ddiv (FP.dsub (FP.l2d hi) t2) (FP.dsub (FP.l2d hi) (FP.l2d lo))) (FP.dadd (FP.ddiv t2 (4611686018427387904 : UInt64)) (FP.ddiv (FP.l2d hi) (4611686018427387904 : UInt64))))), .second] [(.double (FP.dmul (FP.ddiv (FP.dsub (FP.l2d hi) t2) (FP.dsub (FP.l2d hi) (FP.l2d lo))) (FP.dadd (FP.ddiv t2 (4611686018427387904 : UInt64)) (FP.ddiv (FP.l2d hi) (4611686018427387904 : UInt64)))))])) _
    refine X7.ldc2Long hx hown (mvT hZ (hw _ (List.mem_of_getElem? (i := 33) rfl))) (g := (mkF m 122 #[.val (.int p0), .val (.int p1), .val (.int p2), .val (.long lo), .second, .val (.int (p1 &&& (15 : Int32))), .val (.long wi), .second, .val (.long hi), .second, .val (.long tt), .second, .val (.ref b1), .val (.double (FP.dmul (FP.ddiv (FP.dsub (FP.l2d hi) t2) (FP.dsub (FP.l2d hi) (FP.l2d lo))) (FP.dadd (FP.ddiv t2 (4611686018427387904 : UInt64)) (FP.ddiv (FP.l2d hi) (4611686018427387904 : UInt64))))), .second] [(.double (FP.dmul (FP.ddiv (FP.dsub (FP.l2d hi) t2) (FP.dsub (FP.l2d hi) (FP.l2d lo))) (FP.dadd (FP.ddiv t2 (4611686018427387904 : UInt64)) (FP.ddiv (FP.l2d hi) (4611686018427387904 : UInt64)))))])) rfl (hb hby at_122) _ ?_
    show Steps p.tables e below (T7.setTop (mkF m 125 #[.val (.int p0), .val (.int p1), .val (.int p2), .val (.long lo), .second, .val (.int (p1 &&& (15 : Int32))), .val (.long wi), .second, .val (.long hi), .second, .val (.long tt), .second, .val (.ref b1), .val (.double (FP.dmul (FP.ddiv (FP.dsub (FP.l2d hi) t2) (FP.dsub (FP.l2d hi) (FP.l2d lo))) (FP.dadd (FP.ddiv t2 (4611686018427387904 : UInt64)) (FP.ddiv (FP.l2d hi) (4611686018427387904 : UInt64))))), .second] [(.long (8 : Int64)), (.double (FP.dmul (FP.ddiv (FP.dsub (FP.l2d hi) t2) (FP.dsub (FP.l2d hi) (FP.l2d lo))) (FP.dadd (FP.ddiv t2 (4611686018427387904 : UInt64)) (FP.ddiv (FP.l2d hi) (4611686018427387904 : UInt64)))))])) _
    refine XS.lload X7.here hx rfl (hb hby at_125) rfl ?_
    show Steps p.tables e below (T7.setTop (mkF m 127 #[.val (.int p0), .val (.int p1), .val (.int p2), .val (.long lo), .second, .val (.int (p1 &&& (15 : Int32))), .val (.long wi), .second, .val (.long hi), .second, .val (.long tt), .second, .val (.ref b1), .val (.double (FP.dmul (FP.ddiv (FP.dsub (FP.l2d hi) t2) (FP.dsub (FP.l2d hi) (FP.l2d lo))) (FP.dadd (FP.ddiv t2 (4611686018427387904 : UInt64)) (FP.ddiv (FP.l2d hi) (4611686018427387904 : UInt64))))), .second] [(.long wi), (.long (8 : Int64)), (.double (FP.dmul (FP.ddiv (FP.dsub (FP.l2d hi) t2) (FP.dsub (FP.l2d hi) (FP.l2d lo))) (FP.dadd (FP.ddiv t2 (4611686018427387904 : UInt64)) (FP.ddiv (FP.l2d hi) (4611686018427387904 : UInt64)))))])) _
    refine XS.lmul X7.here hx rfl (hb hby at_127) rfl ?_
    show Steps p.tables e below (T7.setTop (mkF m 128 #[.val (.int p0), .val (.int p1), .val (.int p2), .val (.long lo), .second, .val (.int (p1 &&& (15 : Int32))), .val (.long wi), .second, .val (.long hi), .second, .val (.long tt), .second, .val (.ref b1), .val (.double (FP.dmul (FP.ddiv (FP.dsub (FP.l2d hi) t2) (FP.dsub (FP.l2d hi) (FP.l2d lo))) (FP.dadd (FP.ddiv t2 (4611686018427387904 : UInt64)) (FP.ddiv (FP.l2d hi) (4611686018427387904 : UInt64))))), .second] [(.long ((8 : Int64) * wi)), (.double (FP.dmul (FP.ddiv (FP.dsub (FP.l2d hi) t2) (FP.dsub (FP.l2d hi) (FP.l2d lo))) (FP.dadd (FP.ddiv t2 (4611686018427387904 : UInt64)) (FP.ddiv (FP.l2d hi) (4611686018427387904 : UInt64)))))])) _
    refine XS.l2dS X7.here hx rfl (hb hby at_128) rfl (v := (FP.l2d ((8 : Int64) * wi))) rfl ?_
    show Steps p.tables e below (T7.setTop (mkF m 129 #[.val (.int p0), .val (.int p1), .val (.int p2), .val (.long lo), .second, .val (.int (p1 &&& (15 : Int32))), .val (.long wi), .second, .val (.long hi), .second, .val (.long tt), .second, .val (.ref b1), .val (.double (FP.dmul (FP.ddiv (FP.dsub (FP.l2d hi) t2) (FP.dsub (FP.l2d hi) (FP.l2d lo))) (FP.dadd (FP.ddiv t2 (4611686018427387904 : UInt64)) (FP.ddiv (FP.l2d hi) (4611686018427387904 : UInt64))))), .second] [(.double (FP.l2d ((8 : Int64) * wi))), (.double (FP.dmul (FP.ddiv (FP.dsub (FP.l2d hi) t2) (FP.dsub (FP.l2d hi) (FP.l2d lo))) (FP.dadd (FP.ddiv t2 (4611686018427387904 : UInt64)) (FP.ddiv (FP.l2d hi) (4611686018427387904 : UInt64)))))])) _
    refine XS.dmulS X7.here hx rfl (hb hby at_129) rfl nn129 (v := (FP.dmul (FP.dmul (FP.ddiv (FP.dsub (FP.l2d hi) t2) (FP.dsub (FP.l2d hi) (FP.l2d lo))) (FP.dadd (FP.ddiv t2 (4611686018427387904 : UInt64)) (FP.ddiv (FP.l2d hi) (4611686018427387904 : UInt64)))) (FP.l2d ((8 : Int64) * wi)))) rfl ?_
    show Steps p.tables e below (T7.setTop (mkF m 130 #[.val (.int p0), .val (.int p1), .val (.int p2), .val (.long lo), .second, .val (.int (p1 &&& (15 : Int32))), .val (.long wi), .second, .val (.long hi), .second, .val (.long tt), .second, .val (.ref b1), .val (.double (FP.dmul (FP.ddiv (FP.dsub (FP.l2d hi) t2) (FP.dsub (FP.l2d hi) (FP.l2d lo))) (FP.dadd (FP.ddiv t2 (4611686018427387904 : UInt64)) (FP.ddiv (FP.l2d hi) (4611686018427387904 : UInt64))))), .second] [(.double (FP.dmul (FP.dmul (FP.ddiv (FP.dsub (FP.l2d hi) t2) (FP.dsub (FP.l2d hi) (FP.l2d lo))) (FP.dadd (FP.ddiv t2 (4611686018427387904 : UInt64)) (FP.ddiv (FP.l2d hi) (4611686018427387904 : UInt64)))) (FP.l2d ((8 : Int64) * wi))))])) _
    refine X7.ldc2Long hx hown (mvT hZ (hw _ (List.mem_of_getElem? (i := 34) rfl))) (g := (mkF m 130 #[.val (.int p0), .val (.int p1), .val (.int p2), .val (.long lo), .second, .val (.int (p1 &&& (15 : Int32))), .val (.long wi), .second, .val (.long hi), .second, .val (.long tt), .second, .val (.ref b1), .val (.double (FP.dmul (FP.ddiv (FP.dsub (FP.l2d hi) t2) (FP.dsub (FP.l2d hi) (FP.l2d lo))) (FP.dadd (FP.ddiv t2 (4611686018427387904 : UInt64)) (FP.ddiv (FP.l2d hi) (4611686018427387904 : UInt64))))), .second] [(.double (FP.dmul (FP.dmul (FP.ddiv (FP.dsub (FP.l2d hi) t2) (FP.dsub (FP.l2d hi) (FP.l2d lo))) (FP.dadd (FP.ddiv t2 (4611686018427387904 : UInt64)) (FP.ddiv (FP.l2d hi) (4611686018427387904 : UInt64)))) (FP.l2d ((8 : Int64) * wi))))])) rfl (hb hby at_130) _ ?_
    show Steps p.tables e below (T7.setTop (mkF m 133 #[.val (.int p0), .val (.int p1), .val (.int p2), .val (.long lo), .second, .val (.int (p1 &&& (15 : Int32))), .val (.long wi), .second, .val (.long hi), .second, .val (.long tt), .second, .val (.ref b1), .val (.double (FP.dmul (FP.ddiv (FP.dsub (FP.l2d hi) t2) (FP.dsub (FP.l2d hi) (FP.l2d lo))) (FP.dadd (FP.ddiv t2 (4611686018427387904 : UInt64)) (FP.ddiv (FP.l2d hi) (4611686018427387904 : UInt64))))), .second] [(.long (4 : Int64)), (.double (FP.dmul (FP.dmul (FP.ddiv (FP.dsub (FP.l2d hi) t2) (FP.dsub (FP.l2d hi) (FP.l2d lo))) (FP.dadd (FP.ddiv t2 (4611686018427387904 : UInt64)) (FP.ddiv (FP.l2d hi) (4611686018427387904 : UInt64)))) (FP.l2d ((8 : Int64) * wi))))])) _
    refine XS.lload X7.here hx rfl (hb hby at_133) rfl ?_
    show Steps p.tables e below (T7.setTop (mkF m 135 #[.val (.int p0), .val (.int p1), .val (.int p2), .val (.long lo), .second, .val (.int (p1 &&& (15 : Int32))), .val (.long wi), .second, .val (.long hi), .second, .val (.long tt), .second, .val (.ref b1), .val (.double (FP.dmul (FP.ddiv (FP.dsub (FP.l2d hi) t2) (FP.dsub (FP.l2d hi) (FP.l2d lo))) (FP.dadd (FP.ddiv t2 (4611686018427387904 : UInt64)) (FP.ddiv (FP.l2d hi) (4611686018427387904 : UInt64))))), .second] [(.long hi), (.long (4 : Int64)), (.double (FP.dmul (FP.dmul (FP.ddiv (FP.dsub (FP.l2d hi) t2) (FP.dsub (FP.l2d hi) (FP.l2d lo))) (FP.dadd (FP.ddiv t2 (4611686018427387904 : UInt64)) (FP.ddiv (FP.l2d hi) (4611686018427387904 : UInt64)))) (FP.l2d ((8 : Int64) * wi))))])) _
    refine XS.lmul X7.here hx rfl (hb hby at_135) rfl ?_
    show Steps p.tables e below (T7.setTop (mkF m 136 #[.val (.int p0), .val (.int p1), .val (.int p2), .val (.long lo), .second, .val (.int (p1 &&& (15 : Int32))), .val (.long wi), .second, .val (.long hi), .second, .val (.long tt), .second, .val (.ref b1), .val (.double (FP.dmul (FP.ddiv (FP.dsub (FP.l2d hi) t2) (FP.dsub (FP.l2d hi) (FP.l2d lo))) (FP.dadd (FP.ddiv t2 (4611686018427387904 : UInt64)) (FP.ddiv (FP.l2d hi) (4611686018427387904 : UInt64))))), .second] [(.long ((4 : Int64) * hi)), (.double (FP.dmul (FP.dmul (FP.ddiv (FP.dsub (FP.l2d hi) t2) (FP.dsub (FP.l2d hi) (FP.l2d lo))) (FP.dadd (FP.ddiv t2 (4611686018427387904 : UInt64)) (FP.ddiv (FP.l2d hi) (4611686018427387904 : UInt64)))) (FP.l2d ((8 : Int64) * wi))))])) _
    refine XS.lload X7.here hx rfl (hb hby at_136) rfl ?_
    show Steps p.tables e below (T7.setTop (mkF m 138 #[.val (.int p0), .val (.int p1), .val (.int p2), .val (.long lo), .second, .val (.int (p1 &&& (15 : Int32))), .val (.long wi), .second, .val (.long hi), .second, .val (.long tt), .second, .val (.ref b1), .val (.double (FP.dmul (FP.ddiv (FP.dsub (FP.l2d hi) t2) (FP.dsub (FP.l2d hi) (FP.l2d lo))) (FP.dadd (FP.ddiv t2 (4611686018427387904 : UInt64)) (FP.ddiv (FP.l2d hi) (4611686018427387904 : UInt64))))), .second] [(.long hi), (.long ((4 : Int64) * hi)), (.double (FP.dmul (FP.dmul (FP.ddiv (FP.dsub (FP.l2d hi) t2) (FP.dsub (FP.l2d hi) (FP.l2d lo))) (FP.dadd (FP.ddiv t2 (4611686018427387904 : UInt64)) (FP.ddiv (FP.l2d hi) (4611686018427387904 : UInt64)))) (FP.l2d ((8 : Int64) * wi))))])) _
    refine XS.lmul X7.here hx rfl (hb hby at_138) rfl ?_
    show Steps p.tables e below (T7.setTop (mkF m 139 #[.val (.int p0), .val (.int p1), .val (.int p2), .val (.long lo), .second, .val (.int (p1 &&& (15 : Int32))), .val (.long wi), .second, .val (.long hi), .second, .val (.long tt), .second, .val (.ref b1), .val (.double (FP.dmul (FP.ddiv (FP.dsub (FP.l2d hi) t2) (FP.dsub (FP.l2d hi) (FP.l2d lo))) (FP.dadd (FP.ddiv t2 (4611686018427387904 : UInt64)) (FP.ddiv (FP.l2d hi) (4611686018427387904 : UInt64))))), .second] [(.long (((4 : Int64) * hi) * hi)), (.double (FP.dmul (FP.dmul (FP.ddiv (FP.dsub (FP.l2d hi) t2) (FP.dsub (FP.l2d hi) (FP.l2d lo))) (FP.dadd (FP.ddiv t2 (4611686018427387904 : UInt64)) (FP.ddiv (FP.l2d hi) (4611686018427387904 : UInt64)))) (FP.l2d ((8 : Int64) * wi))))])) _
    refine XS.lload X7.here hx rfl (hb hby at_139) rfl ?_
    show Steps p.tables e below (T7.setTop (mkF m 141 #[.val (.int p0), .val (.int p1), .val (.int p2), .val (.long lo), .second, .val (.int (p1 &&& (15 : Int32))), .val (.long wi), .second, .val (.long hi), .second, .val (.long tt), .second, .val (.ref b1), .val (.double (FP.dmul (FP.ddiv (FP.dsub (FP.l2d hi) t2) (FP.dsub (FP.l2d hi) (FP.l2d lo))) (FP.dadd (FP.ddiv t2 (4611686018427387904 : UInt64)) (FP.ddiv (FP.l2d hi) (4611686018427387904 : UInt64))))), .second] [(.long tt), (.long (((4 : Int64) * hi) * hi)), (.double (FP.dmul (FP.dmul (FP.ddiv (FP.dsub (FP.l2d hi) t2) (FP.dsub (FP.l2d hi) (FP.l2d lo))) (FP.dadd (FP.ddiv t2 (4611686018427387904 : UInt64)) (FP.ddiv (FP.l2d hi) (4611686018427387904 : UInt64)))) (FP.l2d ((8 : Int64) * wi))))])) _
    refine XS.lload X7.here hx rfl (hb hby at_141) rfl ?_
    show Steps p.tables e below (T7.setTop (mkF m 143 #[.val (.int p0), .val (.int p1), .val (.int p2), .val (.long lo), .second, .val (.int (p1 &&& (15 : Int32))), .val (.long wi), .second, .val (.long hi), .second, .val (.long tt), .second, .val (.ref b1), .val (.double (FP.dmul (FP.ddiv (FP.dsub (FP.l2d hi) t2) (FP.dsub (FP.l2d hi) (FP.l2d lo))) (FP.dadd (FP.ddiv t2 (4611686018427387904 : UInt64)) (FP.ddiv (FP.l2d hi) (4611686018427387904 : UInt64))))), .second] [(.long tt), (.long tt), (.long (((4 : Int64) * hi) * hi)), (.double (FP.dmul (FP.dmul (FP.ddiv (FP.dsub (FP.l2d hi) t2) (FP.dsub (FP.l2d hi) (FP.l2d lo))) (FP.dadd (FP.ddiv t2 (4611686018427387904 : UInt64)) (FP.ddiv (FP.l2d hi) (4611686018427387904 : UInt64)))) (FP.l2d ((8 : Int64) * wi))))])) _
    refine XS.lmul X7.here hx rfl (hb hby at_143) rfl ?_
    show Steps p.tables e below (T7.setTop (mkF m 144 #[.val (.int p0), .val (.int p1), .val (.int p2), .val (.long lo), .second, .val (.int (p1 &&& (15 : Int32))), .val (.long wi), .second, .val (.long hi), .second, .val (.long tt), .second, .val (.ref b1), .val (.double (FP.dmul (FP.ddiv (FP.dsub (FP.l2d hi) t2) (FP.dsub (FP.l2d hi) (FP.l2d lo))) (FP.dadd (FP.ddiv t2 (4611686018427387904 : UInt64)) (FP.ddiv (FP.l2d hi) (4611686018427387904 : UInt64))))), .second] [(.long (tt * tt)), (.long (((4 : Int64) * hi) * hi)), (.double (FP.dmul (FP.dmul (FP.ddiv (FP.dsub (FP.l2d hi) t2) (FP.dsub (FP.l2d hi) (FP.l2d lo))) (FP.dadd (FP.ddiv t2 (4611686018427387904 : UInt64)) (FP.ddiv (FP.l2d hi) (4611686018427387904 : UInt64)))) (FP.l2d ((8 : Int64) * wi))))])) _
    refine XS.lsub X7.here hx rfl (hb hby at_144) rfl ?_
    show Steps p.tables e below (T7.setTop (mkF m 145 #[.val (.int p0), .val (.int p1), .val (.int p2), .val (.long lo), .second, .val (.int (p1 &&& (15 : Int32))), .val (.long wi), .second, .val (.long hi), .second, .val (.long tt), .second, .val (.ref b1), .val (.double (FP.dmul (FP.ddiv (FP.dsub (FP.l2d hi) t2) (FP.dsub (FP.l2d hi) (FP.l2d lo))) (FP.dadd (FP.ddiv t2 (4611686018427387904 : UInt64)) (FP.ddiv (FP.l2d hi) (4611686018427387904 : UInt64))))), .second] [(.long ((((4 : Int64) * hi) * hi) - (tt * tt))), (.double (FP.dmul (FP.dmul (FP.ddiv (FP.dsub (FP.l2d hi) t2) (FP.dsub (FP.l2d hi) (FP.l2d lo))) (FP.dadd (FP.ddiv t2 (4611686018427387904 : UInt64)) (FP.ddiv (FP.l2d hi) (4611686018427387904 : UInt64)))) (FP.l2d ((8 : Int64) * wi))))])) _
    refine XS.l2dS X7.here hx rfl (hb hby at_145) rfl (v := (FP.l2d ((((4 : Int64) * hi) * hi) - (tt * tt)))) rfl ?_
    show Steps p.tables e below (T7.setTop (mkF m 146 #[.val (.int p0), .val (.int p1), .val (.int p2), .val (.long lo), .second, .val (.int (p1 &&& (15 : Int32))), .val (.long wi), .second, .val (.long hi), .second, .val (.long tt), .second, .val (.ref b1), .val (.double (FP.dmul (FP.ddiv (FP.dsub (FP.l2d hi) t2) (FP.dsub (FP.l2d hi) (FP.l2d lo))) (FP.dadd (FP.ddiv t2 (4611686018427387904 : UInt64)) (FP.ddiv (FP.l2d hi) (4611686018427387904 : UInt64))))), .second] [(.double (FP.l2d ((((4 : Int64) * hi) * hi) - (tt * tt)))), (.double (FP.dmul (FP.dmul (FP.ddiv (FP.dsub (FP.l2d hi) t2) (FP.dsub (FP.l2d hi) (FP.l2d lo))) (FP.dadd (FP.ddiv t2 (4611686018427387904 : UInt64)) (FP.ddiv (FP.l2d hi) (4611686018427387904 : UInt64)))) (FP.l2d ((8 : Int64) * wi))))])) _
    refine XS.dcmpS X7.here hx rfl (hb hby at_146) rfl (v := (0 : Int32)) hd146 ?_
    show Steps p.tables e below (T7.setTop (mkF m 147 #[.val (.int p0), .val (.int p1), .val (.int p2), .val (.long lo), .second, .val (.int (p1 &&& (15 : Int32))), .val (.long wi), .second, .val (.long hi), .second, .val (.long tt), .second, .val (.ref b1), .val (.double (FP.dmul (FP.ddiv (FP.dsub (FP.l2d hi) t2) (FP.dsub (FP.l2d hi) (FP.l2d lo))) (FP.dadd (FP.ddiv t2 (4611686018427387904 : UInt64)) (FP.ddiv (FP.l2d hi) (4611686018427387904 : UInt64))))), .second] [(.int (0 : Int32))])) _
    refine XS.ifNo X7.here hx rfl (hb hby at_147) rfl ((if0 _ _).trans (teq (by decide : (0 : Int32) = (0 : Int32))).2) ?_
    show Steps p.tables e below (T7.setTop (mkF m 150 #[.val (.int p0), .val (.int p1), .val (.int p2), .val (.long lo), .second, .val (.int (p1 &&& (15 : Int32))), .val (.long wi), .second, .val (.long hi), .second, .val (.long tt), .second, .val (.ref b1), .val (.double (FP.dmul (FP.ddiv (FP.dsub (FP.l2d hi) t2) (FP.dsub (FP.l2d hi) (FP.l2d lo))) (FP.dadd (FP.ddiv t2 (4611686018427387904 : UInt64)) (FP.ddiv (FP.l2d hi) (4611686018427387904 : UInt64))))), .second] [])) _
    refine XS.iconst X7.here hx rfl (hb hby at_150) ?_
    show Steps p.tables e below (T7.setTop (mkF m 151 #[.val (.int p0), .val (.int p1), .val (.int p2), .val (.long lo), .second, .val (.int (p1 &&& (15 : Int32))), .val (.long wi), .second, .val (.long hi), .second, .val (.long tt), .second, .val (.ref b1), .val (.double (FP.dmul (FP.ddiv (FP.dsub (FP.l2d hi) t2) (FP.dsub (FP.l2d hi) (FP.l2d lo))) (FP.dadd (FP.ddiv t2 (4611686018427387904 : UInt64)) (FP.ddiv (FP.l2d hi) (4611686018427387904 : UInt64))))), .second] [(.int (1 : Int32))])) _
    refine XS.goto X7.here hx rfl (pc0 := 151) (pc' := 155) rfl (hb hby at_151) (by decide) (by decide) ?_
    show Steps p.tables e below (T7.setTop (mkF m 155 #[.val (.int p0), .val (.int p1), .val (.int p2), .val (.long lo), .second, .val (.int (p1 &&& (15 : Int32))), .val (.long wi), .second, .val (.long hi), .second, .val (.long tt), .second, .val (.ref b1), .val (.double (FP.dmul (FP.ddiv (FP.dsub (FP.l2d hi) t2) (FP.dsub (FP.l2d hi) (FP.l2d lo))) (FP.dadd (FP.ddiv t2 (4611686018427387904 : UInt64)) (FP.ddiv (FP.l2d hi) (4611686018427387904 : UInt64))))), .second] [(.int (1 : Int32))])) _
    exact retN X7 hx (t := .boolean) Bd.returns (by simp) (hb hby at_155) hr
  · show Q0 n0 _ T7.heap _
    rw [e7]
    exact ⟨rfl, N7⟩
theorem own_absmax {K : Nat} {x : UInt64} (h : Jvm.Free.Fl.Mag64 K x) (hK : K ≤ 2046) : Jvm.Op.cmpValue (FP.dcmp (x &&& 0x7fffffffffffffff) (9218868437227405311 : UInt64)) .g = (-1 : Int32) := by
  have nx : Jvm.FP.Core.val64 x ≠ .nan := Jvm.OwnFP.nan_of (h.fin (by omega)).noNaN
  have nm : Jvm.FP.Core.val64 (9218868437227405311 : UInt64) ≠ .nan := by rw [Jvm.FP.Core.ne_nan]; decide
  rw [show FP.dcmp (x &&& 0x7fffffffffffffff) (9218868437227405311 : UInt64) = some .lt from (Jvm.FP.Core.dcmp_lt_key (Jvm.FP.Core.mask_ne_nan nx) nm).mpr (by
    rw [Jvm.FP.Core.mask_key, show Jvm.FP.Core.dkey (9218868437227405311 : UInt64) = 9218868437227405311 by decide +kernel]
    unfold Jvm.Free.Fl.Mag64 at h
    omega)]
  rfl
theorem own_shl (p : Int32) : ∃ k W : Nat, ((1 : Int64) <<< ((p &&& (15 : Int32)) &&& 0x3f).toInt64).toInt = (W : Int) ∧ W = 2 ^ k ∧ k ≤ 15 ∧ 1 ≤ W ∧ W ≤ 32768 := by
  have a := c_and p (15 : Int32) (by decide)
  rw [show (15 : Int32).toInt = 15 by decide] at a
  generalize p &&& (15 : Int32) = q at *
  have e : ∀ k : Int32, q.toInt = k.toInt → q = k := fun k h => Int32.toInt_inj.mp h
  have hq : q.toInt = 0 ∨ q.toInt = 1 ∨ q.toInt = 2 ∨ q.toInt = 3 ∨ q.toInt = 4 ∨ q.toInt = 5 ∨ q.toInt = 6 ∨ q.toInt = 7 ∨ q.toInt = 8 ∨ q.toInt = 9 ∨ q.toInt = 10 ∨ q.toInt = 11 ∨ q.toInt = 12 ∨ q.toInt = 13 ∨ q.toInt = 14 ∨ q.toInt = 15 := by omega
  rcases hq with h | h | h | h | h | h | h | h | h | h | h | h | h | h | h | h
  · rw [e 0 (by rw [h]; decide)]; exact ⟨0, 1, by decide, by decide, by decide, by decide, by decide⟩
  · rw [e 1 (by rw [h]; decide)]; exact ⟨1, 2, by decide, by decide, by decide, by decide, by decide⟩
  · rw [e 2 (by rw [h]; decide)]; exact ⟨2, 4, by decide, by decide, by decide, by decide, by decide⟩
  · rw [e 3 (by rw [h]; decide)]; exact ⟨3, 8, by decide, by decide, by decide, by decide, by decide⟩
  · rw [e 4 (by rw [h]; decide)]; exact ⟨4, 16, by decide, by decide, by decide, by decide, by decide⟩
  · rw [e 5 (by rw [h]; decide)]; exact ⟨5, 32, by decide, by decide, by decide, by decide, by decide⟩
  · rw [e 6 (by rw [h]; decide)]; exact ⟨6, 64, by decide, by decide, by decide, by decide, by decide⟩
  · rw [e 7 (by rw [h]; decide)]; exact ⟨7, 128, by decide, by decide, by decide, by decide, by decide⟩
  · rw [e 8 (by rw [h]; decide)]; exact ⟨8, 256, by decide, by decide, by decide, by decide, by decide⟩
  · rw [e 9 (by rw [h]; decide)]; exact ⟨9, 512, by decide, by decide, by decide, by decide, by decide⟩
  · rw [e 10 (by rw [h]; decide)]; exact ⟨10, 1024, by decide, by decide, by decide, by decide, by decide⟩
  · rw [e 11 (by rw [h]; decide)]; exact ⟨11, 2048, by decide, by decide, by decide, by decide, by decide⟩
  · rw [e 12 (by rw [h]; decide)]; exact ⟨12, 4096, by decide, by decide, by decide, by decide, by decide⟩
  · rw [e 13 (by rw [h]; decide)]; exact ⟨13, 8192, by decide, by decide, by decide, by decide, by decide⟩
  · rw [e 14 (by rw [h]; decide)]; exact ⟨14, 16384, by decide, by decide, by decide, by decide, by decide⟩
  · rw [e 15 (by rw [h]; decide)]; exact ⟨15, 32768, by decide, by decide, by decide, by decide, by decide⟩
open Jvm.OwnFP Jvm.Free.Fl in
theorem own_A {x y : UInt64} {L H : Int} (hx : Ra L 1 x) (hy : Ra H 1 y) (L0 : 0 ≤ L) (H0 : 0 ≤ H) (L1 : L ≤ 1048575) (H1 : H ≤ 1081343) :
    NoNaN64 (FP.ddiv x (4611686018427387904 : UInt64)) ∧ NoNaN64 (FP.ddiv y (4611686018427387904 : UInt64)) ∧ NoNaN64 (FP.dadd (FP.ddiv x (4611686018427387904 : UInt64)) (FP.ddiv y (4611686018427387904 : UInt64))) ∧ Ra (L + H) 1 (FP.dmul (FP.dadd (FP.ddiv x (4611686018427387904 : UInt64)) (FP.ddiv y (4611686018427387904 : UInt64))) (4611686018427387904 : UInt64)) := by
  have a1 : Ra L 2 (FP.ddiv x (4611686018427387904 : UInt64)) := Ra.div (k := 1) hx ra_two (by decide) (by decide) (by decide) (by omega) (by decide) (by decide) (by omega)
  have a2 : Ra H 2 (FP.ddiv y (4611686018427387904 : UInt64)) := Ra.div (k := 1) hy ra_two (by decide) (by decide) (by decide) (by omega) (by decide) (by decide) (by omega)
  have a3 := Ra.add (k := 1) a1 a2 (by omega) (by decide) (by decide)
  exact ⟨a1.nn, a2.nn, a3.nn, Ra.mulr (k := 0) a3 ra_two (by decide) (by decide) (by omega) rfl (by decide) (by omega)⟩
open Jvm.OwnFP Jvm.Free.Fl in
theorem own_C {x y t w : UInt64} {L H T : Int} {W k : Nat} (hx : Ra L 1 x) (hy : Ra H 1 y) (ht : Ra T 2 t) (hw : Ra (8 * (W : Int)) 1 w) (hW : W = 2 ^ k) (hk : k ≤ 15) (hH : H = L + (W : Int)) (L0 : 0 ≤ L) (L1 : L ≤ 1048575) (T0 : 2 * L < T) (T1 : T < 2 * H) (W0 : 1 ≤ W) (W1 : W ≤ 32768) :
    NoNaN64 (FP.dsub y t) ∧ NoNaN64 (FP.dsub y x) ∧ NoNaN64 (FP.ddiv (FP.dsub y t) (FP.dsub y x)) ∧ NoNaN64 (FP.ddiv t (4611686018427387904 : UInt64)) ∧ NoNaN64 (FP.ddiv y (4611686018427387904 : UInt64)) ∧ NoNaN64 (FP.dadd (FP.ddiv t (4611686018427387904 : UInt64)) (FP.ddiv y (4611686018427387904 : UInt64))) ∧
    NoNaN64 (FP.dmul (FP.ddiv (FP.dsub y t) (FP.dsub y x)) (FP.dadd (FP.ddiv t (4611686018427387904 : UInt64)) (FP.ddiv y (4611686018427387904 : UInt64)))) ∧ Ra ((2 * H - T) * (T + 2 * H)) 1 (FP.dmul (FP.dmul (FP.ddiv (FP.dsub y t) (FP.dsub y x)) (FP.dadd (FP.ddiv t (4611686018427387904 : UInt64)) (FP.ddiv y (4611686018427387904 : UInt64)))) w) := by
  have a1 : Ra (2 * H - T) 2 (FP.dsub y t) := Ra.sub (k := 1) (hy.scale (D' := 2) (i' := 2 * H) (by decide) (by omega)) ht (by omega) (by decide) (by decide)
  have a2 : Ra (W : Int) 1 (FP.dsub y x) := (Ra.sub (k := 0) hy hx (by omega) rfl (by decide)).same (by omega)
  have hF : 2 * W = 2 ^ (k + 1) := by rw [hW, Nat.pow_succ]; omega
  have a3 : Ra (2 * H - T) (2 * W) (FP.ddiv (FP.dsub y t) (FP.dsub y x)) := Ra.div (k := k + 1) a1 a2 (by decide) (by decide) (by omega) (by omega) hF (by omega) (by
    rw [show ((2 * W : Nat) : Int) = (W : Int) * 2 by omega]; show (2 * H - T) * 1 * _ = _; rw [Int.mul_one]; rfl)
  have a4 : Ra T 4 (FP.ddiv t (4611686018427387904 : UInt64)) := Ra.div (k := 2) ht ra_two (by decide) (by decide) (by decide) (by omega) (by decide) (by decide) (by omega)
  have a5 : Ra (2 * H) 4 (FP.ddiv y (4611686018427387904 : UInt64)) := Ra.div (k := 2) hy ra_two (by decide) (by decide) (by decide) (by omega) (by decide) (by decide) (by omega)
  have a6 : Ra (T + 2 * H) 4 (FP.dadd (FP.ddiv t (4611686018427387904 : UInt64)) (FP.ddiv y (4611686018427387904 : UInt64))) := Ra.add (k := 2) a4 a5 (by omega) (by decide) (by decide)
  have hb : ((2 * H - T) * (T + 2 * H)).natAbs ≤ 65536 * 4325372 := by rw [Int.natAbs_mul]; exact Nat.mul_le_mul (by omega) (by omega)
  have hD : 2 * W * 4 = 2 ^ (k + 3) := by rw [hF, show k + 3 = k + 1 + 2 by omega, Nat.pow_add 2 (k + 1) 2]
  have a7 := Ra.mul (k := k + 3) a3 a6 (by omega) hD (by omega)
  refine ⟨a1.nn, a2.nn, a3.nn, a4.nn, a5.nn, a6.nn, a7.nn, Ra.mulr (k := 0) a7 hw (by omega) (by decide) (by omega) rfl (by decide) ?_⟩
  rw [show ((2 * W * 4 : Nat) : Int) = 8 * (W : Int) by omega]
  show _ * _ * (1 : Int) = _ * (_ * (1 : Int))
  rw [Int.mul_one, Int.mul_one]
theorem own_law (l : Launch) (Z : State) (a0 : Array Value) (hw : ∀ d ∈ tables_1, d.before a0 Z = true) (ws : List Jvm.Cond) (p0 : Int32) (p1 : Int32) (p2 : Int32) (h0 : Heap) (n0 : Nat) (Z0 : n0 ≤ h0.size) :
    MetFree l x (head1 (Jvm.Cond.code x code maxLocals ret :: ws) room_1) (fun a U => a = #[(.int p0), (.int p1), (.int p2)] ∧ Z.Warmed39 U.vm ∧ U.heap = h0) (fun _ _ _ _ _ => True) (fun _ U o U' => ∃ v L, o = .returned v ∧ Q0 n0 v U'.heap L ∧ FrameEnd U o U' L room_1.cells room_1.slots) := by
  obtain ⟨lo, elo⟩ : ∃ z, (p0 &&& (1048575 : Int32)).toInt64 = z := ⟨_, rfl⟩
  obtain ⟨wi, ewi⟩ : ∃ z, ((1 : Int64) <<< ((p1 &&& (15 : Int32)) &&& 0x3f).toInt64) = z := ⟨_, rfl⟩
  obtain ⟨hi, ehi⟩ : ∃ z, lo + wi = z := ⟨_, rfl⟩
  obtain ⟨tt, ett⟩ : ∃ z, (p2 &&& (8388607 : Int32)).toInt64 - (2097152 : Int64) = z := ⟨_, rfl⟩
  obtain ⟨t2, et2⟩ : ∃ z, FP.ddiv (FP.l2d tt) (4611686018427387904 : UInt64) = z := ⟨_, rfl⟩
  obtain ⟨k, W, hW, hWk, hk, W0, W1⟩ := own_shl p1
  rw [ewi] at hW
  have b0 := c_and p0 (1048575 : Int32) (by decide)
  have b2 := c_and p2 (8388607 : Int32) (by decide)
  rw [show (1048575 : Int32).toInt = 1048575 by decide] at b0
  rw [show (8388607 : Int32).toInt = 8388607 by decide] at b2
  have hL : lo.toInt = (p0 &&& (1048575 : Int32)).toInt := by rw [← elo]; exact c_i2l _
  obtain ⟨L, eL⟩ : ∃ z, lo.toInt = z := ⟨_, rfl⟩
  have L0 : 0 ≤ L := by omega
  have L1 : L ≤ 1048575 := by omega
  obtain ⟨H, eH⟩ : ∃ z, L + (W : Int) = z := ⟨_, rfl⟩
  have hH : hi.toInt = H := by rw [← ehi, Jvm.OwnFP.ladd_of eL hW (by omega) (by omega)]; exact eH
  have hT : tt.toInt = (p2 &&& (8388607 : Int32)).toInt - 2097152 := by rw [← ett]; exact Jvm.OwnFP.lsub_of (c_i2l _) (by decide +kernel) (by omega) (by omega)
  obtain ⟨T, eT⟩ : ∃ z, tt.toInt = z := ⟨_, rfl⟩
  have T0 : -2097152 ≤ T := by omega
  have T1 : T ≤ 6291455 := by omega
  have rx : Jvm.OwnFP.Ra L 1 (FP.l2d lo) := (Jvm.OwnFP.Ra.l2d (by omega)).same eL
  have ry : Jvm.OwnFP.Ra H 1 (FP.l2d hi) := (Jvm.OwnFP.Ra.l2d (by omega)).same hH
  have rt1 : Jvm.OwnFP.Ra T 1 (FP.l2d tt) := (Jvm.OwnFP.Ra.l2d (by omega)).same eT
  have rt0 : Jvm.OwnFP.Ra T 2 (FP.ddiv (FP.l2d tt) (4611686018427387904 : UInt64)) := Jvm.OwnFP.Ra.div (k := 1) rt1 Jvm.OwnFP.ra_two (by decide) (by decide) (by decide) (by omega) (by decide) (by decide) (by omega)
  have rt : Jvm.OwnFP.Ra T 2 t2 := et2 ▸ rt0
  have c7 := rx.ge Jvm.OwnFP.ra_zero (by decide) L0 .l
  have c27 := rx.lt' ry (by decide) (by omega) .g
  have cm := own_absmax (Jvm.Free.Fl.l2d_mag hi) (by decide)
  have x2 : Jvm.OwnFP.Ra (2 * L) 2 (FP.l2d lo) := rx.scale (by decide) (by omega)
  have y2 : Jvm.OwnFP.Ra (2 * H) 2 (FP.l2d hi) := ry.scale (by decide) (by omega)
  have k1 : ((2 : Int64) * lo).toInt = 2 * L := Jvm.OwnFP.lmul_of (by decide +kernel) eL (by omega) (by omega)
  have k2 : ((2 : Int64) * hi).toInt = 2 * H := Jvm.OwnFP.lmul_of (by decide +kernel) hH (by omega) (by omega)
  by_cases hA : T ≤ 2 * L
  · obtain ⟨n1, n2, n3, ra⟩ := own_A rx ry L0 (by omega) L1 (by omega)
    have k3 : (lo + hi).toInt = L + H := Jvm.OwnFP.ladd_of eL hH (by omega) (by omega)
    exact rm0A l Z a0 hw ws p0 p1 p2 lo wi hi tt t2 h0 n0 Z0 (hv4 := elo) (hv15 := ewi) (hv21 := ehi) (hv32 := ett) (hc7_44 := c7) (hc27_44 := c27) (nna1_46_44 := ry.nn) (hd7_46_44 := cm) (nn57 := rt0.nn) (hq57 := et2) (hc6_58 := rt.le x2 (by decide) hA _) (nn16_58 := n1) (nn24_58 := n2) (nn25_58 := n3)
      (hc71 := fun q => by rw [lw_gt, Int64.lt_iff_toInt_lt, k1, eT] at q; omega) (nn79 := ra.nn) (hd85 := ra.eq ((Jvm.OwnFP.Ra.l2d (by omega)).same k3) (by decide) rfl _)
  · by_cases hB : 2 * H ≤ T
    · exact rm0B l Z a0 hw ws p0 p1 p2 lo wi hi tt t2 h0 n0 Z0 (hv4 := elo) (hv15 := ewi) (hv21 := ehi) (hv32 := ett) (hc7_44 := c7) (hc27_44 := c27) (nna1_46_44 := ry.nn) (hd7_46_44 := cm) (nn57 := rt0.nn) (hq57 := et2) (hc6_58 := rt.gt' x2 (by decide) (by omega) _) (hc36_58 := rt.ge y2 (by decide) hB _)
        (hc71 := by rw [lw_gt, Int64.lt_iff_toInt_lt, k1, eT]; omega) (hc104 := fun q => by rw [lw_lt, Int64.lt_iff_toInt_lt, k2, eT] at q; omega) (hd110 := Jvm.RoadKit.dcmpV_self (by unfold Jvm.Free.Fl.NoNaN64; decide) _)
    · have k3 : ((8 : Int64) * wi).toInt = 8 * (W : Int) := Jvm.OwnFP.lmul_of (by decide +kernel) hW (by omega) (by omega)
      obtain ⟨n1, n2, n3, n4, n5, n6, n7, ra⟩ := own_C rx ry rt ((Jvm.OwnFP.Ra.l2d (a := (8 : Int64) * wi) (by omega)).same k3) hWk hk eH.symm L0 L1 (by omega) (by omega) W0 W1
      have hbH : 0 ≤ H * H ∧ H * H ≤ 1081343 * 1081343 := ⟨Int.mul_nonneg (by omega) (by omega), Int.mul_le_mul (by omega) (by omega) (by omega) (by decide)⟩
      have hbT : 0 ≤ T * T ∧ T * T ≤ 6291455 * 6291455 := ⟨Int.mul_nonneg (by omega) (by omega), Int.mul_le_mul (by omega) (by omega) (by omega) (by decide)⟩
      have k4 : ((4 : Int64) * hi).toInt = 4 * H := Jvm.OwnFP.lmul_of (by decide +kernel) hH (by omega) (by omega)
      have k5 : ((4 : Int64) * hi * hi).toInt = 4 * H * H := Jvm.OwnFP.lmul_of k4 hH (by rw [Int.mul_assoc]; omega) (by rw [Int.mul_assoc]; omega)
      have k6 : (tt * tt).toInt = T * T := Jvm.OwnFP.lmul_of eT eT (by omega) (by omega)
      have k7 : ((4 : Int64) * hi * hi - tt * tt).toInt = 4 * H * H - T * T := Jvm.OwnFP.lsub_of k5 k6 (by rw [Int.mul_assoc]; omega) (by rw [Int.mul_assoc]; omega)
      have k8 : (2 * H - T) * (T + 2 * H) = 4 * H * H - T * T := by grind
      exact rm0C l Z a0 hw ws p0 p1 p2 lo wi hi tt t2 h0 n0 Z0 (hv4 := elo) (hv15 := ewi) (hv21 := ehi) (hv32 := ett) (hc7_44 := c7) (hc27_44 := c27) (nna1_46_44 := ry.nn) (hd7_46_44 := cm) (nn57 := rt0.nn) (hq57 := et2) (hc6_58 := rt.gt' x2 (by decide) (by omega) _) (hc36_58 := rt.lt' y2 (by decide) (by omega) _)
        (nn49_58 := n1) (nn58_58 := n2) (nn59_58 := n3) (nn64_58 := n4) (nn72_58 := n5) (nn73_58 := n6) (nn74_58 := n7)
        (hc71 := by rw [lw_gt, Int64.lt_iff_toInt_lt, k1, eT]; omega) (hc104 := by rw [lw_lt, Int64.lt_iff_toInt_lt, k2, eT]; omega) (nn129 := ra.nn)
        (hd146 := ra.eq ((Jvm.OwnFP.Ra.l2d (a := (4 : Int64) * hi * hi - tt * tt) (by rw [k7, Int.mul_assoc]; omega)).same k7) (by decide) k8 _)
set_option maxRecDepth 65536 in
set_option maxHeartbeats 40000000 in
theorem comes_1 {Post : Tables → Env → Array Value → State → Outcome → State → Prop} (hpost : ∀ tb e args s v u, (limb_1_1.after args s (.returned v) u = true ∧ limb_1_2.after args s (.returned v) u = true ∧ True) → FrameEnd s (.returned v) u (Jvm.fieldLocs frame_1_writes args s ++ Jvm.arrayLocs frame_1_arrays args s ++ Jvm.staticLocs frame_1_statics s) 16 128 → Post tb e args s (.returned v) u) :
    ArmFor flags0 classFile x code maxLocals ret World_1 tables_1 room_1 Calls_1 rest_1 Pre_1 Post := by
  intro l hfl _ _ p e ha hc hk s m args below hf hA hF happ hP
  obtain ⟨hcalls, hrest, hpre⟩ := hP
  obtain ⟨-, -, -, hnamed, -, -, -, hat⟩ := (Spec.applies_iff hf).mp happ
  obtain ⟨hg, hn⟩ := and_e (Cond.before_iff.mp (show (Jvm.Cond.and given_1 narrow_1).before args s = true from hpre))
  obtain ⟨g1, g2⟩ := and_e hg
  obtain ⟨g3, g4⟩ := and_e g2
  obtain ⟨g5, g6⟩ := and_e g4
  obtain ⟨w0, w1, w2, rfl⟩ : ∃ w0 w1 w2 : Value, args = #[w0, w1, w2] := by
    have hs : args.size = 3 := by simpa [Cond.value, given_1] using g1
    obtain ⟨L⟩ := args
    match L, hs with
    | [w0, w1, w2], _ => exact ⟨w0, w1, w2, rfl⟩
  have hw := fun d (hd : d ∈ tables_1) => atoms_spec (ws := Jvm.Cond.code x code maxLocals ret :: tables_1) hat d (List.mem_cons_of_mem _ hd)
  have hfit : Fit s := fun {y c} hc i hi => by
    obtain ⟨ha, rfl⟩ := Array.getElem?_eq_some_iff.mp hc
    have q := List.all_eq_true.mp ((Array.all_eq_true_iff_forall_mem.mp hF) _ (Array.getElem_mem ha)) i (List.mem_range.mpr hi)
    simpa [Array.getElem?_eq_getElem hi] using q
  obtain ⟨i0, ei0⟩ := is_v g3
  obtain rfl : w0 = (.int i0) := Option.some.inj ei0
  obtain ⟨i1, ei1⟩ := is_v g5
  obtain rfl : w1 = (.int i1) := Option.some.inj ei1
  obtain ⟨i2, ei2⟩ := is_v g6
  obtain rfl : w2 = (.int i2) := Option.some.inj ei2
  obtain ⟨n, o, h1, h2, h3, _, L, rfl, ⟨rfl, N⟩, hq⟩ := own_law l s _ hw tables_1 i0 i1 i2 s.heap s.heap.size (Nat.le_refl _)  p e ha hc hk s m _ below hf ((Spec.applies_iff_loose hf).mp happ).1 ⟨rfl, State.Warmed39.refl s, rfl⟩ trivial
  refine ⟨n, _, h1, h2, h3, hpost _ _ _ _ _ _ ⟨Cond.after_iff.mpr rfl, Cond.after_iff.mpr (eq_i res_at (Term.int_eval (1)) rfl), trivial⟩ ⟨hq.1, hq.2.1, (hq.2.2.sift fun y hy => Or.inr (N y hy)).mono (by decide) (by decide)⟩⟩
theorem main_1_1 : Claimed_1_1 := comes_1 fun _ _ _ _ _ _ h hF => ⟨h.1, hF⟩
theorem main_1_2 : Claimed_1_2 := comes_1 fun _ _ _ _ _ _ h hF => ⟨h.2.1, hF⟩
end Jvm.Pilot.@@N@@
namespace Jvm.Pilot.@@N@@
open Jvm Jvm.ClassFile Sem Op Lib Jvm.Free Jvm.Stand Jvm.Pilot.@@N@@.Jvm.D
/-! MADE BY PROGRAM (witnessworld.py) out of the Statement's table words and the real class files: 17 classes; the members and pool entries that the words name. The judged class is class 1, her method 1. -/
namespace start1
open Jvm.ClassFile
def u (s : String) : CpInfo := .utf8 (stringToUtf16 s)
/-- a pool by its gaps: so many unusable entries, then the entry; so many at the end -/
def gap : Nat → List CpInfo → List CpInfo
  | 0, r => r
  | n + 1, r => .unusable :: gap n r
def poolList (es : List (Nat × CpInfo)) (last : Nat) : List CpInfo := es.foldr (fun e r => gap e.1 (e.2 :: r)) (gap last [])
def pool (es : List (Nat × CpInfo)) (last : Nat) : Array CpInfo := ⟨poolList es last⟩
def fileOf (pool : Array CpInfo) (this : Nat) (attrs : Array Attribute := #[]) (ms : Array MethodInfo := #[]) (fl : Nat := 33) (sup : Nat := 0) (ifs : Array Nat := #[]) (fds : Array FieldInfo := #[]) : ClassFile where
  minorVersion := 0
  majorVersion := 65
  constantPool := pool
  accessFlags := fl
  thisClass := this
  superClass := sup
  interfaces := ifs
  fields := fds
  methods := ms
  attributes := attrs
def plain (name : String) (sup : Option ClassId) : Class where
  name := name
  kind := .ordinary
  loader := none
  accessFlags := 33
  super := sup
  interfaces := #[]
  cf := none
  fields := #[]
  methods := #[]
  instanceTypes := #[]
  staticTypes := #[]
  resolved := #[]
  callSites := []
  init := .initialized
  statics := none
  mirror := none

def pool0 : Array CpInfo := pool [(5, u "<init>"), (0, u "()V"), (1, .class_ 10), (1, u "java/lang/Object")] 113

def k0c0 : Code := { maxStack := 0, maxLocals := 1, code := object_method_1_code, exceptionTable := #[], attributes := #[] }
def k0m0 : Method := { name := "<init>", desc := "()V", sig := { parameters := [], returnType := none }, accessFlags := 1, code := some k0c0 }
/-- java/lang/Object -/
def k0 : Class := { plain "java/lang/Object" none with
  accessFlags := 33
  interfaces := #[]
  cf := some (fileOf pool0 8 #[] #[{ accessFlags := 1, nameIndex := 5, descriptorIndex := 6, attributes := #[] }] 33 0 #[] #[])
  fields := #[]
  methods := #[k0m0]
  instanceTypes := #[]
  staticTypes := #[]
  resolved := Array.replicate 124 none
  statics := none }

def pool1 : Array CpInfo := pool [(2, .class_ 4), (1, u "java/lang/Object"), (0, u "<init>"), (0, u "()V"), (0, .integer 1048575), (0, .integer 8388607), (0, .long 2097152), (1, .class_ 12), (0, u "com/example/arrivals/arrivals/core/UniformDistribution"), (0, .methodref 11 14), (0, .nameAndType 5 15), (0, u "(DD)V"), (0, .double 4611686018427387904), (1, .methodref 11 19), (0, .nameAndType 20 21), (0, u "partialMean"), (0, u "(D)D"), (0, .long 2), (1, .long 8), (1, .long 4), (1, .class_ 29), (0, u "com/example/arrivals/arrivals/core/UniformDistributionPartialMeanPinLaw"), (2, u "law"), (0, u "(III)Z")] 3

def k1m0 : Method := { name := "<init>", desc := "()V", sig := { parameters := [], returnType := none }, accessFlags := 1, code := none }
def k1c1 : Code := { maxStack := 8, maxLocals := 15, code := code, exceptionTable := #[], attributes := #[] }
def k1m1 : Method := { name := "law", desc := "(III)Z", sig := { parameters := [.int, .int, .int], returnType := some .boolean }, accessFlags := 9, code := some k1c1 }
/-- com/example/arrivals/arrivals/core/UniformDistributionPartialMeanPinLaw -/
def k1 : Class := { plain "com/example/arrivals/arrivals/core/UniformDistributionPartialMeanPinLaw" (some 0) with
  accessFlags := 49
  interfaces := #[]
  cf := some (fileOf pool1 28 #[] #[{ accessFlags := 1, nameIndex := 5, descriptorIndex := 6, attributes := #[] }, { accessFlags := 9, nameIndex := 32, descriptorIndex := 33, attributes := #[] }] 49 2 #[] #[])
  fields := #[]
  methods := #[k1m0, k1m1]
  instanceTypes := #[]
  staticTypes := #[]
  resolved := Array.replicate 37 none
  statics := none }

def pool2 : Array CpInfo := pool [(1, .class_ 2), (0, u "com/example/arrivals/arrivals/core/ValueDistribution"), (0, .class_ 4), (0, u "java/lang/Object")] 7

/-- com/example/arrivals/arrivals/core/ValueDistribution -/
def k2 : Class := { plain "com/example/arrivals/arrivals/core/ValueDistribution" (some 0) with
  accessFlags := 1537
  interfaces := #[]
  cf := some (fileOf pool2 1 #[] #[] 1537 3 #[] #[])
  fields := #[]
  methods := #[]
  instanceTypes := #[]
  staticTypes := #[]
  resolved := Array.replicate 12 none
  statics := none }

def pool3 : Array CpInfo := pool [(1, .class_ 2), (0, u "com/example/arrivals/arrivals/core/ContinuousDistribution"), (0, .class_ 4), (0, u "java/lang/Object"), (0, .class_ 6), (0, u "com/example/arrivals/arrivals/core/ValueDistribution")] 4

/-- com/example/arrivals/arrivals/core/ContinuousDistribution -/
def k3 : Class := { plain "com/example/arrivals/arrivals/core/ContinuousDistribution" (some 0) with
  accessFlags := 1537
  interfaces := #[2]
  cf := some (fileOf pool3 1 #[] #[] 1537 3 #[5] #[])
  fields := #[]
  methods := #[]
  instanceTypes := #[]
  staticTypes := #[]
  resolved := Array.replicate 11 none
  statics := none }

def pool4 : Array CpInfo := pool [(1, .methodref 2 3), (0, .class_ 4), (0, .nameAndType 5 6), (0, u "java/lang/Object"), (0, u "<init>"), (0, u "()V"), (12, .methodref 20 21), (0, .class_ 22), (0, .nameAndType 23 24), (0, u "java/lang/Double"), (0, u "isFinite"), (0, u "(D)Z"), (1, .fieldref 27 28), (0, .class_ 29), (0, .nameAndType 30 31), (0, u "com/example/arrivals/arrivals/core/UniformDistribution"), (0, u "low"), (0, u "D"), (0, .fieldref 27 33), (0, .nameAndType 34 31), (0, u "high"), (0, .double 4611686018427387904), (11, .class_ 48), (0, u "com/example/arrivals/arrivals/core/ContinuousDistribution"), (0, u "(DD)V"), (4, u "(D)D"), (0, u "partialMean")] 24

def k4c0 : Code := { maxStack := 6, maxLocals := 5, code := prog_29_method_1_code, exceptionTable := #[], attributes := #[] }
def k4m0 : Method := { name := "<init>", desc := "(DD)V", sig := { parameters := [.double, .double], returnType := none }, accessFlags := 1, code := some k4c0 }
def k4c1 : Code := { maxStack := 8, maxLocals := 5, code := prog_29_method_3_code, exceptionTable := #[], attributes := #[] }
def k4m1 : Method := { name := "partialMean", desc := "(D)D", sig := { parameters := [.double], returnType := some .double }, accessFlags := 1, code := some k4c1 }
/-- com/example/arrivals/arrivals/core/UniformDistribution -/
def k4 : Class := { plain "com/example/arrivals/arrivals/core/UniformDistribution" (some 0) with
  accessFlags := 49
  interfaces := #[3]
  cf := some (fileOf pool4 27 #[] #[{ accessFlags := 1, nameIndex := 5, descriptorIndex := 49, attributes := #[] }, { accessFlags := 1, nameIndex := 55, descriptorIndex := 54, attributes := #[] }] 49 2 #[47] #[{ accessFlags := 18, nameIndex := 30, descriptorIndex := 31, attributes := #[] }, { accessFlags := 18, nameIndex := 34, descriptorIndex := 31, attributes := #[] }])
  fields := #[{ name := "low", type := .double, accessFlags := 18, slot := 0, constantValue := 0 }, { name := "high", type := .double, accessFlags := 18, slot := 1, constantValue := 0 }]
  methods := #[k4m0, k4m1]
  instanceTypes := #[.double, .double]
  staticTypes := #[]
  resolved := Array.replicate 80 none
  statics := none }

def pool5 : Array CpInfo := pool [(1, .class_ 2), (0, u "java/io/Serializable"), (0, .class_ 4), (0, u "java/lang/Object")] 2

/-- java/io/Serializable -/
def k5 : Class := { plain "java/io/Serializable" (some 0) with
  accessFlags := 1537
  interfaces := #[]
  cf := some (fileOf pool5 1 #[] #[] 1537 3 #[] #[])
  fields := #[]
  methods := #[]
  instanceTypes := #[]
  staticTypes := #[]
  resolved := Array.replicate 7 none
  statics := none }

def pool6 : Array CpInfo := pool [(2, .class_ 4), (1, u "java/lang/Object"), (0, u "<init>"), (0, u "()V"), (1, .class_ 10), (1, u "java/lang/Number"), (2, .class_ 14), (0, u "java/io/Serializable"), (0, u "serialVersionUID"), (0, u "J")] 20

def k6m0 : Method := { name := "<init>", desc := "()V", sig := { parameters := [], returnType := none }, accessFlags := 1, code := none }
/-- java/lang/Number -/
def k6 : Class := { plain "java/lang/Number" (some 0) with
  accessFlags := 1057
  interfaces := #[5]
  cf := some (fileOf pool6 8 #[] #[{ accessFlags := 1, nameIndex := 5, descriptorIndex := 6, attributes := #[] }] 1057 2 #[13] #[{ accessFlags := 26, nameIndex := 15, descriptorIndex := 16, attributes := #[] }])
  fields := #[{ name := "serialVersionUID", type := .long, accessFlags := 26, slot := 0, constantValue := 0 }]
  methods := #[k6m0]
  instanceTypes := #[]
  staticTypes := #[.long]
  resolved := Array.replicate 37 none
  statics := none }

def pool7 : Array CpInfo := pool [(1, .class_ 2), (0, u "java/lang/Comparable"), (0, .class_ 4), (0, u "java/lang/Object")] 7

/-- java/lang/Comparable -/
def k7 : Class := { plain "java/lang/Comparable" (some 0) with
  accessFlags := 1537
  interfaces := #[]
  cf := some (fileOf pool7 1 #[] #[] 1537 3 #[] #[])
  fields := #[]
  methods := #[]
  instanceTypes := #[]
  staticTypes := #[]
  resolved := Array.replicate 12 none
  statics := none }

def pool8 : Array CpInfo := pool [(1, .class_ 2), (0, u "java/lang/constant/Constable"), (0, .class_ 4), (0, u "java/lang/Object")] 6

/-- java/lang/constant/Constable -/
def k8 : Class := { plain "java/lang/constant/Constable" (some 0) with
  accessFlags := 1537
  interfaces := #[]
  cf := some (fileOf pool8 1 #[] #[] 1537 3 #[] #[])
  fields := #[]
  methods := #[]
  instanceTypes := #[]
  staticTypes := #[]
  resolved := Array.replicate 11 none
  statics := none }

def pool9 : Array CpInfo := pool [(1, .class_ 2), (0, u "java/lang/constant/ConstantDesc"), (0, .class_ 4), (0, u "java/lang/Object")] 32

/-- java/lang/constant/ConstantDesc -/
def k9 : Class := { plain "java/lang/constant/ConstantDesc" (some 0) with
  accessFlags := 1537
  interfaces := #[]
  cf := some (fileOf pool9 1 #[] #[] 1537 3 #[] #[])
  fields := #[]
  methods := #[]
  instanceTypes := #[]
  staticTypes := #[]
  resolved := Array.replicate 37 none
  statics := none }

def pool10 : Array CpInfo := pool [(1, .class_ 2), (0, u "java/lang/Double"), (10, u "isFinite"), (0, u "(D)Z"), (8, .class_ 25), (1, u "java/lang/Math"), (12, .methodref 23 39), (0, .nameAndType 40 41), (0, u "abs"), (0, u "(D)D"), (69, .double 9218868437227405311), (2, .class_ 116), (1, u "java/lang/Number"), (3, u "value"), (0, u "D"), (51, u "TYPE"), (0, u "Ljava/lang/Class;"), (0, .class_ 176), (0, u "java/lang/Comparable"), (0, .class_ 178), (0, u "java/lang/constant/Constable"), (0, .class_ 180), (0, u "java/lang/constant/ConstantDesc"), (0, u "POSITIVE_INFINITY"), (3, u "NEGATIVE_INFINITY"), (2, u "NaN"), (2, u "MAX_VALUE"), (0, u "MIN_NORMAL"), (0, u "MIN_VALUE"), (2, u "SIZE"), (0, u "I"), (1, u "PRECISION"), (1, u "MAX_EXPONENT"), (1, u "MIN_EXPONENT"), (1, u "BYTES"), (3, u "serialVersionUID"), (0, u "J")] 79

def k10c0 : Code := { maxStack := 4, maxLocals := 2, code := jdk_117_method_8_code, exceptionTable := #[], attributes := #[] }
def k10m0 : Method := { name := "isFinite", desc := "(D)Z", sig := { parameters := [.double], returnType := some .boolean }, accessFlags := 9, code := some k10c0 }
/-- java/lang/Double -/
def k10 : Class := { plain "java/lang/Double" (some 6) with
  accessFlags := 49
  interfaces := #[7, 8, 9]
  cf := some (fileOf pool10 1 #[] #[{ accessFlags := 9, nameIndex := 13, descriptorIndex := 14, attributes := #[] }] 49 114 #[175, 177, 179] #[{ accessFlags := 25, nameIndex := 181, descriptorIndex := 121, attributes := #[] }, { accessFlags := 25, nameIndex := 185, descriptorIndex := 121, attributes := #[] }, { accessFlags := 25, nameIndex := 188, descriptorIndex := 121, attributes := #[] }, { accessFlags := 25, nameIndex := 191, descriptorIndex := 121, attributes := #[] }, { accessFlags := 25, nameIndex := 192, descriptorIndex := 121, attributes := #[] }, { accessFlags := 25, nameIndex := 193, descriptorIndex := 121, attributes := #[] }, { accessFlags := 25, nameIndex := 196, descriptorIndex := 197, attributes := #[] }, { accessFlags := 25, nameIndex := 199, descriptorIndex := 197, attributes := #[] }, { accessFlags := 25, nameIndex := 201, descriptorIndex := 197, attributes := #[] }, { accessFlags := 25, nameIndex := 203, descriptorIndex := 197, attributes := #[] }, { accessFlags := 25, nameIndex := 205, descriptorIndex := 197, attributes := #[] }, { accessFlags := 25, nameIndex := 173, descriptorIndex := 174, attributes := #[] }, { accessFlags := 18, nameIndex := 120, descriptorIndex := 121, attributes := #[] }, { accessFlags := 26, nameIndex := 209, descriptorIndex := 210, attributes := #[] }])
  fields := #[{ name := "POSITIVE_INFINITY", type := .double, accessFlags := 25, slot := 0, constantValue := 0 }, { name := "NEGATIVE_INFINITY", type := .double, accessFlags := 25, slot := 1, constantValue := 0 }, { name := "NaN", type := .double, accessFlags := 25, slot := 2, constantValue := 0 }, { name := "MAX_VALUE", type := .double, accessFlags := 25, slot := 3, constantValue := 0 }, { name := "MIN_NORMAL", type := .double, accessFlags := 25, slot := 4, constantValue := 0 }, { name := "MIN_VALUE", type := .double, accessFlags := 25, slot := 5, constantValue := 0 }, { name := "SIZE", type := .int, accessFlags := 25, slot := 6, constantValue := 0 }, { name := "PRECISION", type := .int, accessFlags := 25, slot := 7, constantValue := 0 }, { name := "MAX_EXPONENT", type := .int, accessFlags := 25, slot := 8, constantValue := 0 }, { name := "MIN_EXPONENT", type := .int, accessFlags := 25, slot := 9, constantValue := 0 }, { name := "BYTES", type := .int, accessFlags := 25, slot := 10, constantValue := 0 }, { name := "TYPE", type := (.object "java/lang/Class"), accessFlags := 25, slot := 11, constantValue := 0 }, { name := "value", type := .double, accessFlags := 18, slot := 0, constantValue := 0 }, { name := "serialVersionUID", type := .long, accessFlags := 26, slot := 12, constantValue := 0 }]
  methods := #[k10m0]
  instanceTypes := #[.double]
  staticTypes := #[.double, .double, .double, .double, .double, .double, .int, .int, .int, .int, .int, (.object "java/lang/Class"), .long]
  resolved := Array.replicate 290 none
  statics := none }

def pool11 : Array CpInfo := pool [(1, .class_ 2), (0, u "java/lang/Math"), (1, .class_ 6), (1, u "java/lang/Object"), (0, u "<init>"), (0, u "()V"), (5, u "(D)D"), (83, .class_ 100), (1, u "java/lang/Math$RandomNumberGeneratorHolder"), (23, u "abs"), (47, u "negativeZeroFloatBits"), (0, u "J"), (2, u "negativeZeroDoubleBits"), (68, u "$assertionsDisabled"), (0, u "Z"), (91, u "twoToTheDoubleScaleDown"), (0, u "D"), (4, u "twoToTheDoubleScaleUp"), (9, u "E"), (3, u "PI"), (2, u "TAU"), (2, u "DEGREES_TO_RADIANS"), (0, u "RADIANS_TO_DEGREES")] 94

def k11m0 : Method := { name := "<init>", desc := "()V", sig := { parameters := [], returnType := none }, accessFlags := 2, code := none }
def k11c1 : Code := { maxStack := 4, maxLocals := 2, code := jdk_29_method_64_code, exceptionTable := #[], attributes := #[] }
def k11m1 : Method := { name := "abs", desc := "(D)D", sig := { parameters := [.double], returnType := some .double }, accessFlags := 9, code := some k11c1 }
/-- java/lang/Math -/
def k11 : Class := { plain "java/lang/Math" (some 0) with
  accessFlags := 49
  interfaces := #[]
  cf := some (fileOf pool11 1 #[.nestMembers #[98]] #[{ accessFlags := 2, nameIndex := 7, descriptorIndex := 8, attributes := #[] }, { accessFlags := 9, nameIndex := 124, descriptorIndex := 14, attributes := #[] }] 49 4 #[] #[{ accessFlags := 25, nameIndex := 354, descriptorIndex := 339, attributes := #[] }, { accessFlags := 25, nameIndex := 358, descriptorIndex := 339, attributes := #[] }, { accessFlags := 25, nameIndex := 361, descriptorIndex := 339, attributes := #[] }, { accessFlags := 26, nameIndex := 364, descriptorIndex := 339, attributes := #[] }, { accessFlags := 26, nameIndex := 365, descriptorIndex := 339, attributes := #[] }, { accessFlags := 26, nameIndex := 172, descriptorIndex := 173, attributes := #[] }, { accessFlags := 26, nameIndex := 176, descriptorIndex := 173, attributes := #[] }, { accessFlags := 8, nameIndex := 344, descriptorIndex := 339, attributes := #[] }, { accessFlags := 8, nameIndex := 338, descriptorIndex := 339, attributes := #[] }, { accessFlags := 4120, nameIndex := 245, descriptorIndex := 246, attributes := #[] }])
  fields := #[{ name := "E", type := .double, accessFlags := 25, slot := 0, constantValue := 0 }, { name := "PI", type := .double, accessFlags := 25, slot := 1, constantValue := 0 }, { name := "TAU", type := .double, accessFlags := 25, slot := 2, constantValue := 0 }, { name := "DEGREES_TO_RADIANS", type := .double, accessFlags := 26, slot := 3, constantValue := 0 }, { name := "RADIANS_TO_DEGREES", type := .double, accessFlags := 26, slot := 4, constantValue := 0 }, { name := "negativeZeroFloatBits", type := .long, accessFlags := 26, slot := 5, constantValue := 0 }, { name := "negativeZeroDoubleBits", type := .long, accessFlags := 26, slot := 6, constantValue := 0 }, { name := "twoToTheDoubleScaleUp", type := .double, accessFlags := 8, slot := 7, constantValue := 0 }, { name := "twoToTheDoubleScaleDown", type := .double, accessFlags := 8, slot := 8, constantValue := 0 }, { name := "$assertionsDisabled", type := .boolean, accessFlags := 4120, slot := 9, constantValue := 0 }]
  methods := #[k11m0, k11m1]
  instanceTypes := #[]
  staticTypes := #[.double, .double, .double, .double, .double, .long, .long, .double, .double, .boolean]
  resolved := Array.replicate 460 none
  statics := none }

def pool12 : Array CpInfo := pool [(1, u "java/lang/Cloneable"), (0, .class_ 1), (0, u "java/lang/Object"), (0, .class_ 3)] 3

/-- java/lang/Cloneable -/
def k12 : Class := { plain "java/lang/Cloneable" (some 0) with
  accessFlags := 1537
  interfaces := #[]
  cf := some (fileOf pool12 2 #[] #[] 1537 4 #[] #[])
  fields := #[]
  methods := #[]
  instanceTypes := #[]
  staticTypes := #[]
  resolved := Array.replicate 8 none
  statics := none }

/-- the primitive byte -/
def k13 : Class := { plain "byte" none with kind := .primitive 'B', accessFlags := 0x411 }
/-- [B -/
def k14 : Class := { plain "[B" (some 0) with kind := .array 13 .byte, interfaces := #[12, 5], accessFlags := 1041 }

/-- the primitive int -/
def k15 : Class := { plain "int" none with kind := .primitive 'I', accessFlags := 0x411 }
/-- [I -/
def k16 : Class := { plain "[I" (some 0) with kind := .array 15 .int, interfaces := #[12, 5], accessFlags := 1041 }

def heap : Heap := #[]
def classes : Array Class := #[k0, k1, k2, k3, k4, k5, k6, k7, k8, k9, k10, k11, k12, k13, k14, k15, k16]
def interned : List (Array UInt16 × Addr) := []
def slotsUsed : Nat := 0
def theMethod : MethodId := ⟨1, 1⟩
def args0 : Array Value := #[.int 5, .int 7, .int 3]
def aboutOver (below : List Frame) : State where
  vm := { classes := classes, interned := interned.toArray }
  heap := heap
  slotsUsed := slotsUsed
  threads := #[{ frames := .invoking theMethod args0 :: below }]
def below0 : List Frame := [.native { method := ⟨0, 0⟩, args := #[] }]
def about1 : State := aboutOver below0
def p0 : Program := .bare "" "" ""
def e0 : Env := launch0.env 0 0 0
theorem w_frames : about1.frames = Frame.invoking theMethod args0 :: below0 := rfl
set_option maxRecDepth 65536 in
theorem w_args : argsFit about1.vm theMethod args0 = true := by decide +kernel
set_option maxRecDepth 65536 in
theorem w_heap : heapFits about1 = true := by decide +kernel
set_option maxRecDepth 65536 in
theorem w_runnable : about1.curStatus? = some .runnable := by decide +kernel
set_option maxRecDepth 65536 in
theorem w_alone : about1.alone = true := by decide +kernel
set_option maxRecDepth 65536 in
theorem w_named : about1.methodNamed? x = some theMethod := by decide +kernel
set_option maxRecDepth 65536 in
theorem w_hears : about1.hears theMethod below0 = true := by decide +kernel
set_option maxRecDepth 65536 in
theorem w_ripe : about1.ripe theMethod args0 below0 = true := by decide +kernel
theorem w_running : about1.status = .running := rfl
set_option maxRecDepth 65536 in
theorem w_room : about1.hasRoom e0.platform room_1 = true :=
  launch0.hasRoom_least _ room_1 (by decide +kernel) (by decide +kernel) (by decide +kernel) (by decide +kernel) (by decide +kernel) (by decide +kernel)
theorem allAtoms_all (ts : List Jvm.Cond) (a : Array Jvm.Value) (st : Jvm.State) : (allAtoms ts).before a st = ts.all (fun c => c.before a st) := by
  induction ts with
  | nil => rfl
  | cons c t ih =>
    show (Jvm.Cond.and c (allAtoms t)).before a st = _
    rw [Jvm.Cond.before_and, ih, List.all_cons]
def words1 : List Jvm.Cond := Jvm.Cond.code x code maxLocals ret :: tables_1
/-- a 'code' word, met by the world's own term for the bytes: nothing is compared byte by byte -/
theorem code_word {y : MethodName} {bytes : ByteArray} {mx : Nat} {rt : Option FieldType} {a : Array Value} {s : State} {m : MethodId} {meth : Method} {c : Code} (h1 : s.methodNamed? y = some m) (h2 : s.vm.method? m = some meth) (h3 : meth.code = some c) (h4 : c.code = bytes)
    (h5 : (c.maxLocals == mx && c.exceptionTable.isEmpty && decide (c.maxStack ≤ mostOperands) && decide (meth.sig.returnType = rt) && !meth.locks && decide (parseMethodDescriptor y.desc = some meth.sig)) = true) : (Jvm.Cond.code y bytes mx rt).before a s = true := by
  simp only [Bool.and_eq_true, beq_iff_eq, Bool.not_eq_true', decide_eq_true_eq] at h5
  obtain ⟨⟨⟨⟨⟨g1, g2⟩, g3⟩, g4⟩, g5⟩, g6⟩ := h5
  simp [Cond.before, Cond.holds, Cond.value, h1, h2, h3, h4, g1, g2, g3, g4, g5, g6]
def isCode : Jvm.Cond → Bool
  | .code _ _ _ _ => true
  | _ => false
theorem all_split {L : List Jvm.Cond} {P : Jvm.Cond → Bool} (h1 : L.all (fun c => isCode c || P c) = true) (h2 : ∀ c ∈ L.filter isCode, P c = true) : L.all P = true := by
  refine List.all_eq_true.mpr fun c hc => ?_
  have h := List.all_eq_true.mp h1 c hc
  rcases Bool.eq_false_or_eq_true (isCode c) with hi | hi
  · exact h2 c (List.mem_filter.mpr ⟨hc, hi⟩)
  · simpa [hi] using h
set_option maxRecDepth 65536 in
theorem w_c0 : (Jvm.Cond.code x code maxLocals ret).before args0 about1 = true := code_word (m := ⟨1, 1⟩) (meth := k1m1) (c := k1c1) (by decide +kernel) rfl rfl rfl (by decide +kernel)
set_option maxRecDepth 65536 in
theorem w_c1 : (Jvm.Cond.code ({ cls := "com/example/arrivals/arrivals/core/UniformDistribution", name := "<init>", desc := "(DD)V" } : Jvm.MethodName) prog_29_method_1_code (5 : Nat) (Option.none : Option Jvm.ClassFile.FieldType)).before args0 about1 = true := code_word (m := ⟨4, 0⟩) (meth := k4m0) (c := k4c0) (by decide +kernel) rfl rfl rfl (by decide +kernel)
set_option maxRecDepth 65536 in
theorem w_c2 : (Jvm.Cond.code ({ cls := "java/lang/Object", name := "<init>", desc := "()V" } : Jvm.MethodName) object_method_1_code (1 : Nat) (Option.none : Option Jvm.ClassFile.FieldType)).before args0 about1 = true := code_word (m := ⟨0, 0⟩) (meth := k0m0) (c := k0c0) (by decide +kernel) rfl rfl rfl (by decide +kernel)
set_option maxRecDepth 65536 in
theorem w_c3 : (Jvm.Cond.code ({ cls := "java/lang/Double", name := "isFinite", desc := "(D)Z" } : Jvm.MethodName) jdk_117_method_8_code (2 : Nat) (Option.some Jvm.ClassFile.FieldType.boolean)).before args0 about1 = true := code_word (m := ⟨10, 0⟩) (meth := k10m0) (c := k10c0) (by decide +kernel) rfl rfl rfl (by decide +kernel)
set_option maxRecDepth 65536 in
theorem w_c4 : (Jvm.Cond.code ({ cls := "java/lang/Math", name := "abs", desc := "(D)D" } : Jvm.MethodName) jdk_29_method_64_code (2 : Nat) (Option.some Jvm.ClassFile.FieldType.double)).before args0 about1 = true := code_word (m := ⟨11, 1⟩) (meth := k11m1) (c := k11c1) (by decide +kernel) rfl rfl rfl (by decide +kernel)
set_option maxRecDepth 65536 in
theorem w_c5 : (Jvm.Cond.code ({ cls := "com/example/arrivals/arrivals/core/UniformDistribution", name := "partialMean", desc := "(D)D" } : Jvm.MethodName) prog_29_method_3_code (5 : Nat) (Option.some Jvm.ClassFile.FieldType.double)).before args0 about1 = true := code_word (m := ⟨4, 1⟩) (meth := k4m1) (c := k4c1) (by decide +kernel) rfl rfl rfl (by decide +kernel)
def codes1 : List Jvm.Cond := [Jvm.Cond.code x code maxLocals ret, Jvm.Cond.code ({ cls := "com/example/arrivals/arrivals/core/UniformDistribution", name := "<init>", desc := "(DD)V" } : Jvm.MethodName) prog_29_method_1_code (5 : Nat) (Option.none : Option Jvm.ClassFile.FieldType), Jvm.Cond.code ({ cls := "java/lang/Object", name := "<init>", desc := "()V" } : Jvm.MethodName) object_method_1_code (1 : Nat) (Option.none : Option Jvm.ClassFile.FieldType), Jvm.Cond.code ({ cls := "java/lang/Double", name := "isFinite", desc := "(D)Z" } : Jvm.MethodName) jdk_117_method_8_code (2 : Nat) (Option.some Jvm.ClassFile.FieldType.boolean), Jvm.Cond.code ({ cls := "java/lang/Math", name := "abs", desc := "(D)D" } : Jvm.MethodName) jdk_29_method_64_code (2 : Nat) (Option.some Jvm.ClassFile.FieldType.double), Jvm.Cond.code ({ cls := "com/example/arrivals/arrivals/core/UniformDistribution", name := "partialMean", desc := "(D)D" } : Jvm.MethodName) prog_29_method_3_code (5 : Nat) (Option.some Jvm.ClassFile.FieldType.double)]
set_option maxRecDepth 65536 in
theorem codes_eq : words1.filter isCode = codes1 := rfl
theorem w_codes : ∀ c ∈ words1.filter isCode, c.before args0 about1 = true := by
  rw [codes_eq]
  intro c hc
  simp only [codes1, List.mem_cons, List.not_mem_nil, or_false] at hc
  rcases hc with rfl | rfl | rfl | rfl | rfl | rfl
  · exact w_c0
  · exact w_c1
  · exact w_c2
  · exact w_c3
  · exact w_c4
  · exact w_c5
set_option maxRecDepth 65536 in
theorem w_t1 : (words1.take 24).all (fun c => isCode c || c.before args0 about1) = true := by decide +kernel
set_option maxRecDepth 65536 in
theorem w_t2 : (words1.drop 24).all (fun c => isCode c || c.before args0 about1) = true := by decide +kernel
theorem w_tables : (allAtoms (Jvm.Cond.code x code maxLocals ret :: tables_1)).before args0 about1 = true := by
  rw [allAtoms_all]
  show words1.all (fun c => c.before args0 about1) = true
  refine all_split ?_ w_codes
  rw [← List.take_append_drop 24 words1, List.all_append, w_t1, w_t2]
  rfl
set_option maxRecDepth 65536 in
theorem w_case : (Jvm.Cond.and given_1 narrow_1).before args0 about1 = true := by decide +kernel
theorem w_applies : (headSpec (Jvm.Cond.code x code maxLocals ret :: tables_1) room_1).applies x e0.platform about1 = true :=
  (Spec.applies_iff w_frames).mpr ⟨w_running, w_runnable, w_alone, w_named, w_hears, w_ripe, w_room, w_tables⟩
theorem atStart : AtStart classFile x code maxLocals ret World_1 tables_1 room_1 Calls_1 rest_1 Pre_1 launch0 p0 e0 about1 theMethod args0 below0 :=
  ⟨lists_1, trivial, launch0.admits_env _ _ _, launch0.least_env, fairChoices_fair.cas, fairChoices_fair.clock, w_frames, w_args, w_heap, w_applies, trivial, trivial, w_case⟩
end start1
theorem witness_1 : WitnessClaimed_1 := ⟨start1.p0, start1.e0, start1.about1, start1.theMethod, start1.args0, start1.below0, start1.atStart⟩
end Jvm.Pilot.@@N@@
