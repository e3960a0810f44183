import JvmDerived
import JvmDerived.Pilot.@@N@@Statement
import JvmDerived.Pilot.@@N@@Code
set_option linter.unusedVariables false
set_option linter.unusedSimpArgs false
namespace Jvm.RoadKit
open Sem ClassFile Op Lib Jvm.Stand Jvm.Free Jvm.LawKit
section Own
variable {p : Program} {l : Launch} {e : Env} {R : Room} {s : State} {m : MethodId} {args : Array Value} {below : List Frame} {meth : Method} {c : Code} {T : State} {locs : List Loc} {cells slots : Nat}
theorem own_ni0 {a : Addr} : a ∉ ([] : List Addr) := List.not_mem_nil
theorem own_niS {a b : Addr} {ws : List Addr} (h : a ≠ b) (r : a ∉ ws) : a ∉ b :: ws := fun q => (List.mem_cons.mp q).elim h r
theorem own_all0 {P : Addr → Prop} : ∀ x ∈ ([] : List Addr), P x := fun _ q => nomatch q
theorem own_allS {P : Addr → Prop} {b : Addr} {ws : List Addr} (h : P b) (r : ∀ x ∈ ws, P x) : ∀ x ∈ b :: ws, P x := fun x q => (List.mem_cons.mp q).elim (fun e => e ▸ h) (r x)
theorem own_lremM {g : JFrame} {target : State} (X : Stand p l e R s m args below meth c T locs cells slots) (hx : p.tables.exec = Jvm.exec) (hg : g.method = m) {x y : Int64} {rest : List Value} (hd : decode c.code g.pc = .ok (.lrem, 1)) (hs : g.stack = .long y :: .long x :: rest) (hy : y ≠ 0)
    (hr : Steps p.tables e below (T.setTop { g with pc := g.pc + 1, stack := .long (x % y) :: rest }) target) : Steps p.tables e below (T.setTop g) target :=
  XS.lrem X.here hx hg hd hs hy (by rw [lrem_mod]; exact hr)
end Own
end Jvm.RoadKit
namespace Jvm.OwnFP
open Jvm.FP Jvm.FP.Core Jvm.Free.Fl
/-- a double's worth, in units of the least positive double -/
def zv (x : UInt64) : Int := zval b64 (val64 x)
/-- x is finite and is the number i / D -/
def Ra (i : Int) (D : Nat) (x : UInt64) : Prop := DFin x ∧ zv x * (D : Int) = i * (one64 : Int)
theorem Ra.fin {i : Int} {D : Nat} {x : UInt64} (h : Ra i D x) : Fin64 x := fin64_core.mpr h.1
theorem Ra.nn {i : Int} {D : Nat} {x : UInt64} (h : Ra i D x) : NoNaN64 x := h.fin.noNaN
theorem Ra.ne_nan {i : Int} {D : Nat} {x : UInt64} (h : Ra i D x) : val64 x ≠ .nan := h.1.ne_nan
theorem oz : (0 : Int) < (one64 : Int) := Int.natCast_pos.mpr one64_pos
theorem nan_of {x : UInt64} (h : NoNaN64 x) : val64 x ≠ .nan := (notNaN_iff x).mp (noNaN64_no.mp h)
theorem mulc {a b c : Int} (hc : c ≠ 0) (h : a * c = b * c) : a = b := Int.eq_of_mul_eq_mul_right hc h
theorem al_scale {z D D' i i' o : Int} (h : z * D = i * o) (e : i * D' = i' * D) : z * D' * D = i' * o * D := by
  calc z * D' * D = z * D * D' := by ac_rfl
    _ = i * o * D' := by rw [h]
    _ = i * D' * o := by ac_rfl
    _ = i' * o * D := by rw [e]; ac_rfl
theorem al_mul {x y v D E i j o : Int} (hx : x * D = i * o) (hy : y * E = j * o) (hv : v * (D * E) = i * j * o) : x * y * (D * E) = v * o * (D * E) := by
  calc x * y * (D * E) = (x * D) * (y * E) := by ac_rfl
    _ = (i * o) * (j * o) := by rw [hx, hy]
    _ = (i * j * o) * o := by ac_rfl
    _ = v * (D * E) * o := by rw [hv]
    _ = v * o * (D * E) := by ac_rfl
theorem al_mulr {x y v D E F i j r o : Int} (hx : x * D = i * o) (hy : y * E = j * o) (hv : v * F = r * o) (h : i * j * F = r * (D * E)) : x * y * D * E * F = v * o * D * E * F := by
  calc x * y * D * E * F = (x * D) * (y * E) * F := by ac_rfl
    _ = (i * j * F) * (o * o) := by rw [hx, hy]; ac_rfl
    _ = (r * o) * o * (D * E) := by rw [h]; ac_rfl
    _ = (v * F) * o * (D * E) := by rw [hv]
    _ = v * o * D * E * F := by ac_rfl
theorem al_div {x y v D E F i j r o : Int} (hx : x * D = i * o) (hy : y * E = j * o) (hv : v * F = r * o) (h : i * E * F = r * (j * D)) : x * o * D * E * F = v * y * D * E * F := by
  calc x * o * D * E * F = (x * D) * (o * E * F) := by ac_rfl
    _ = (i * E * F) * (o * o) := by rw [hx]; ac_rfl
    _ = (r * o) * (j * o) * D := by rw [h]; ac_rfl
    _ = (v * F) * (y * E) * D := by rw [hv, hy]
    _ = v * y * D * E * F := by ac_rfl
theorem al_units {V d P Q : Nat} : V * P * d * Q = (V * (d * Q)) * P := by ac_rfl
theorem al_mag {i P D o : Nat} (h : i ≤ P * D) : i * o ≤ P * o * D := by
  calc i * o ≤ P * D * o := Nat.mul_le_mul_right _ h
    _ = P * o * D := by ac_rfl
theorem rep {i : Int} {D k : Nat} (hi : i.natAbs < 9007199254740992) (hD : D = 2 ^ k) (hk : k ≤ 1000) : ∃ V, Ra i D V := by
  have hc : i.natAbs < 2 ^ b64.p := by rw [show (2 : Nat) ^ b64.p = 9007199254740992 by decide +kernel]; exact hi
  have hq2 : b64.qmax = 971 := by decide
  obtain ⟨c', q', h1, h2⟩ := round_exact good_b64 (decide (i < 0)) (c := i.natAbs) (q := -(k : Int)) hc (by rw [qmin_b64]; omega) (by rw [hq2]; omega)
  refine ⟨of64 (round b64 (.fin (decide (i < 0)) i.natAbs (-(k : Int)))), ⟨_, _, _, by rw [val64_of64 (round_fits good_b64 _), h1]⟩, ?_⟩
  unfold zv
  rw [val64_of64 (round_fits good_b64 _), h1]
  show signed (decide (i < 0)) (inUnits c' q' b64.qmin) * _ = _
  rw [h2]
  unfold inUnits
  have e1 : signed (decide (i < 0)) i.natAbs = i := by unfold signed; by_cases h : i < 0 <;> simp [h] <;> omega
  have e2 : (-(k : Int) - b64.qmin).toNat + k = 1074 := by rw [qmin_b64]; omega
  rw [signed_mul, e1, Int.mul_assoc, hD, ← Int.natCast_mul, ← Nat.pow_add, e2]
  rfl
theorem fin_of {x V : UInt64} (hn : val64 x ≠ .nan) (hV : DFin V) (h : zv x = zv V) : DFin x := by
  cases hx : val64 x with
  | nan => exact absurd hx hn
  | fin s c q => exact ⟨s, c, q, hx⟩
  | inf s =>
    exfalso
    have h1 := hV.zval_lt
    unfold zv zval at h
    rw [hx] at h
    have h2 := congrArg Int.natAbs h
    rw [natAbs_signed, natAbs_signed] at h2
    exact absurd h2.symm (Nat.ne_of_lt h1)
theorem Ra.scale {i i' : Int} {D D' : Nat} {x : UInt64} (h : Ra i D x) (hD : 0 < D) (e : i * (D' : Int) = i' * (D : Int)) : Ra i' D' x := by
  exact ⟨h.1, mulc (c := (D : Int)) (by omega) (al_scale h.2 e)⟩
theorem Ra.same {i i' : Int} {D : Nat} {x : UInt64} (h : Ra i D x) (e : i = i') : Ra i' D x := e ▸ h
theorem Ra.add {i j : Int} {D k : Nat} {x y : UInt64} (hx : Ra i D x) (hy : Ra j D y) (h : (i + j).natAbs < 9007199254740992) (hD : D = 2 ^ k) (hk : k ≤ 1000) : Ra (i + j) D (FP.dadd x y) := by
  obtain ⟨V, hV⟩ := rep h hD hk
  have hD0 : (D : Int) ≠ 0 := by rw [hD]; exact Int.ne_of_gt (Int.natCast_pos.mpr (Nat.two_pow_pos k))
  have hs : zval b64 (val64 x) + zval b64 (val64 y) = zval b64 (val64 V) := mulc hD0 (by
    have a := hx.2; have b := hy.2; have c := hV.2
    unfold zv at a b c
    rw [Int.add_mul, a, b, c, Int.add_mul])
  have hz : zv (Core.dadd x y) = zv V := by
    unfold zv
    rw [val64_dadd]
    exact Int.le_antisymm (sum_le good_b64 hx.1 hy.1 (val64_fits x) (val64_fits y) (val64_fits V) hV.ne_nan (Int.le_of_eq hs)) (sum_ge good_b64 hx.1 hy.1 (val64_fits x) (val64_fits y) (val64_fits V) hV.ne_nan (Int.le_of_eq hs.symm))
  exact ⟨fin_of ((notNaN_iff _).mp (dadd_out hx.1.notNaN hy.1)) hV.1 hz, by show zv (Core.dadd x y) * _ = _; rw [hz, hV.2]⟩
theorem fin_negate {x : UInt64} (h : DFin x) : ∃ s c q, negate (val64 x) = .fin s c q := by
  obtain ⟨s, c, q, h⟩ := h; exact ⟨!s, c, q, by rw [h]; rfl⟩
theorem Ra.sub {i j : Int} {D k : Nat} {x y : UInt64} (hx : Ra i D x) (hy : Ra j D y) (h : (i - j).natAbs < 9007199254740992) (hD : D = 2 ^ k) (hk : k ≤ 1000) : Ra (i - j) D (FP.dsub x y) := by
  obtain ⟨V, hV⟩ := rep h hD hk
  have hD0 : (D : Int) ≠ 0 := by rw [hD]; exact Int.ne_of_gt (Int.natCast_pos.mpr (Nat.two_pow_pos k))
  have hs : zval b64 (val64 x) + zval b64 (negate (val64 y)) = zval b64 (val64 V) := mulc hD0 (by
    have a := hx.2; have b := hy.2; have c := hV.2
    unfold zv at a b c
    rw [zval_negate, Int.add_mul, Int.neg_mul, a, b, c, Int.sub_mul]
    omega)
  have hz : zv (Core.dsub x y) = zv V := by
    unfold zv
    rw [val64_dsub]
    exact Int.le_antisymm (sum_le good_b64 hx.1 (fin_negate hy.1) (val64_fits x) (negate_fits (val64_fits y)) (val64_fits V) hV.ne_nan (Int.le_of_eq hs)) (sum_ge good_b64 hx.1 (fin_negate hy.1) (val64_fits x) (negate_fits (val64_fits y)) (val64_fits V) hV.ne_nan (Int.le_of_eq hs.symm))
  exact ⟨fin_of ((notNaN_iff _).mp (dsub_out hx.1.notNaN hy.1)) hV.1 hz, by show zv (Core.dsub x y) * _ = _; rw [hz, hV.2]⟩
theorem qq : (b64.qmin - 2 * b64.qmin).toNat = (-b64.qmin).toNat := by rw [qmin_b64]; decide
/-- a product, held against a double -/
theorem mul_le {x y V : UInt64} (hx : DFin x) (hy : DFin y) (hV : val64 V ≠ .nan) (h : zv x * zv y ≤ zv V * (one64 : Int)) : zv (Core.dmul x y) ≤ zv V := by
  obtain ⟨s, c, q, ex⟩ := hx
  obtain ⟨t, d, r, ey⟩ := hy
  have fx := val64_fits x; have fy := val64_fits y
  rw [ex] at fx; rw [ey] at fy
  obtain ⟨p1, p2, p3⟩ := product_units fx fy
  unfold zv at h ⊢
  rw [val64_dmul, ex, ey, p1]
  rw [ex, ey] at h
  exact zval_round_le good_b64 (val64_fits V) hV (e0 := 2 * b64.qmin) (by rw [qmin_b64]; decide) p2 (by rw [p3, signed_xor, qq, pow_qmin64]; exact h)
theorem mul_ge {x y V : UInt64} (hx : DFin x) (hy : DFin y) (hV : val64 V ≠ .nan) (h : zv V * (one64 : Int) ≤ zv x * zv y) : zv V ≤ zv (Core.dmul x y) := by
  obtain ⟨s, c, q, ex⟩ := hx
  obtain ⟨t, d, r, ey⟩ := hy
  have fx := val64_fits x; have fy := val64_fits y
  rw [ex] at fx; rw [ey] at fy
  obtain ⟨p1, p2, p3⟩ := product_units fx fy
  unfold zv at h ⊢
  rw [val64_dmul, ex, ey, p1]
  rw [ex, ey] at h
  exact zval_round_ge good_b64 (val64_fits V) hV (e0 := 2 * b64.qmin) (by rw [qmin_b64]; decide) p2 (by rw [p3, signed_xor, qq, pow_qmin64]; exact h)
/-- the product's worth, where it is a double's -/
theorem mul_zv {x y V : UInt64} (hx : DFin x) (hy : DFin y) (hV : val64 V ≠ .nan) (h : zv x * zv y = zv V * (one64 : Int)) : zv (Core.dmul x y) = zv V :=
  Int.le_antisymm (mul_le hx hy hV (Int.le_of_eq h)) (mul_ge hx hy hV (Int.le_of_eq h.symm))
theorem Ra.mul {i j : Int} {D E k : Nat} {x y : UInt64} (hx : Ra i D x) (hy : Ra j E y) (h : (i * j).natAbs < 9007199254740992) (hD : D * E = 2 ^ k) (hk : k ≤ 1000) : Ra (i * j) (D * E) (FP.dmul x y) := by
  obtain ⟨V, hV⟩ := rep h hD hk
  have hD0 : ((D * E : Nat) : Int) ≠ 0 := by rw [hD]; exact Int.ne_of_gt (Int.natCast_pos.mpr (Nat.two_pow_pos k))
  have hv := hV.2
  rw [Int.natCast_mul] at hv hD0
  have hs : zv x * zv y = zv V * (one64 : Int) := mulc hD0 (al_mul hx.2 hy.2 hv)
  have hz : zv (Core.dmul x y) = zv V := mul_zv hx.1 hy.1 hV.ne_nan hs
  exact ⟨fin_of ((notNaN_iff _).mp (dmul_out hx.1 hy.1)) hV.1 hz, by show zv (Core.dmul x y) * _ = _; rw [hz, hV.2]⟩
/-- a product written in its least terms -/
theorem Ra.mulr {i j r : Int} {D E F k : Nat} {x y : UInt64} (hx : Ra i D x) (hy : Ra j E y) (hD : 0 < D) (hE : 0 < E) (hr : r.natAbs < 9007199254740992) (hF : F = 2 ^ k) (hk : k ≤ 1000) (h : i * j * (F : Int) = r * ((D : Int) * (E : Int))) : Ra r F (FP.dmul x y) := by
  obtain ⟨V, hV⟩ := rep hr hF hk
  have hF0 : (F : Int) ≠ 0 := by rw [hF]; exact Int.ne_of_gt (Int.natCast_pos.mpr (Nat.two_pow_pos k))
  have hs : zv x * zv y = zv V * (one64 : Int) := by
    exact mulc (c := (D : Int)) (by omega) (mulc (c := (E : Int)) (by omega) (mulc hF0 (al_mulr hx.2 hy.2 hV.2 h)))
  have hz : zv (Core.dmul x y) = zv V := mul_zv hx.1 hy.1 hV.ne_nan hs
  exact ⟨fin_of ((notNaN_iff _).mp (dmul_out hx.1 hy.1)) hV.1 hz, by show zv (Core.dmul x y) * _ = _; rw [hz, hV.2]⟩
theorem zv_abs (x : UInt64) : (zv x).natAbs = zmag b64 (val64 x) := by unfold zv zval; rw [natAbs_signed]
/-- the quotient's parts -/
theorem div_parts {x y : UInt64} (hx : DFin x) (hy : DFin y) (hz : zv y ≠ 0) : ∃ s t c d q r, val64 x = .fin s c q ∧ val64 y = .fin t d r ∧ 0 < d ∧ b64.qmin ≤ q ∧ b64.qmin ≤ r ∧ zmag b64 (val64 x) = c * 2 ^ (q - b64.qmin).toNat ∧ zmag b64 (val64 y) = d * 2 ^ (r - b64.qmin).toNat ∧ val64 (Core.ddiv x y) = roundRatio b64 (s != t) c d (q - r) := by
  obtain ⟨s, c, q, ex⟩ := hx
  obtain ⟨t, d, r, ey⟩ := hy
  have fx := val64_fits x; have fy := val64_fits y
  rw [ex] at fx; rw [ey] at fy
  have hd : d ≠ 0 := fun h => hz (by unfold zv; rw [ey, h]; simp [zval, zmag, sgn, inUnits, signed])
  refine ⟨s, t, c, d, q, r, ex, ey, Nat.pos_of_ne_zero hd, fx.2.1, fy.2.1, by rw [ex]; rfl, by rw [ey]; rfl, ?_⟩
  rw [val64_ddiv, ex, ey]
  show (if d = 0 then _ else roundRatio b64 (s != t) c d (q - r)) = _
  rw [if_neg hd]
theorem div_units {c d V : Nat} {q r e : Int} (hq : b64.qmin ≤ q) (hr : b64.qmin ≤ r) (h1 : e ≤ b64.qmin) (h2 : e ≤ q - r) :
    inUnits c (q - r) e * 2 ^ (r - b64.qmin).toNat = (c * 2 ^ (q - b64.qmin).toNat * one64) * 2 ^ (b64.qmin - e).toNat ∧
      V * 2 ^ (b64.qmin - e).toNat * d * 2 ^ (r - b64.qmin).toNat = (V * (d * 2 ^ (r - b64.qmin).toNat)) * 2 ^ (b64.qmin - e).toNat := by
  refine ⟨?_, al_units⟩
  have hn : b64.qmin < 0 := by rw [qmin_b64]; decide
  unfold inUnits
  rw [← pow_qmin64, Nat.mul_assoc, Nat.mul_assoc, Nat.mul_assoc, ← Nat.pow_add, ← Nat.pow_add, ← Nat.pow_add]
  congr 2
  omega
theorem div_mag_le {x y V : UInt64} (hx : DFin x) (hy : DFin y) (hz : zv y ≠ 0) (hV : val64 V ≠ .nan) (h : (zv x).natAbs * one64 ≤ (zv V).natAbs * (zv y).natAbs) : (zv (Core.ddiv x y)).natAbs ≤ (zv V).natAbs := by
  obtain ⟨s, t, c, d, q, r, ex, ey, hd, hq, hr, mx, my, hv⟩ := div_parts hx hy hz
  rw [zv_abs, zv_abs, hv]
  rw [zv_abs, zv_abs, zv_abs, mx, my] at h
  refine zmag_roundRatio_le good_b64 hd (val64_fits V) hV (e0 := min b64.qmin (q - r)) (by omega) (by omega) ?_
  obtain ⟨u1, u2⟩ := div_units (c := c) (d := d) (V := zmag b64 (val64 V)) hq hr (e := min b64.qmin (q - r)) (by omega) (by omega)
  refine Nat.le_of_mul_le_mul_right (c := 2 ^ (r - b64.qmin).toNat) ?_ (Nat.two_pow_pos _)
  rw [u1, u2]
  exact Nat.mul_le_mul_right _ h
theorem div_mag_ge {x y V : UInt64} (hx : DFin x) (hy : DFin y) (hz : zv y ≠ 0) (h : (zv V).natAbs * (zv y).natAbs ≤ (zv x).natAbs * one64) : (zv V).natAbs ≤ (zv (Core.ddiv x y)).natAbs := by
  obtain ⟨s, t, c, d, q, r, ex, ey, hd, hq, hr, mx, my, hv⟩ := div_parts hx hy hz
  rw [zv_abs, zv_abs, hv]
  rw [zv_abs, zv_abs, zv_abs, mx, my] at h
  refine zmag_roundRatio_ge good_b64 hd (val64_fits V) (e0 := min b64.qmin (q - r)) (by omega) (by omega) ?_
  obtain ⟨u1, u2⟩ := div_units (c := c) (d := d) (V := zmag b64 (val64 V)) hq hr (e := min b64.qmin (q - r)) (by omega) (by omega)
  refine Nat.le_of_mul_le_mul_right (c := 2 ^ (r - b64.qmin).toNat) ?_ (Nat.two_pow_pos _)
  rw [u1, u2]
  exact Nat.mul_le_mul_right _ h
theorem zv_sgn (x : UInt64) : zv x = signed (sgn (val64 x)) (zv x).natAbs := by rw [zv_abs]; rfl
theorem div_sgn {x y : UInt64} (hx : DFin x) (hy : DFin y) (hz : zv y ≠ 0) : sgn (val64 (Core.ddiv x y)) = (sgn (val64 x) != sgn (val64 y)) := by
  obtain ⟨s, t, c, d, q, r, ex, ey, -, -, -, -, -, hv⟩ := div_parts hx hy hz
  rw [hv, sgn_roundRatio, ex, ey]; rfl
theorem sgn_pos {x : UInt64} (h : 0 < zv x) : sgn (val64 x) = false := by
  rw [zv_sgn] at h
  cases hs : sgn (val64 x) with
  | false => rfl
  | true => rw [hs] at h; simp [signed] at h; omega
theorem div_nonneg {x y : UInt64} (hx : DFin x) (hy : DFin y) (h1 : 0 < zv x) (h2 : 0 < zv y) : zv (Core.ddiv x y) = ((zv (Core.ddiv x y)).natAbs : Int) := by
  have h := div_sgn hx hy (Int.ne_of_gt h2)
  rw [sgn_pos h1, sgn_pos h2] at h
  rw [zv_sgn (Core.ddiv x y), h]; simp [signed]
theorem div_ge {x y V : UInt64} (hx : DFin x) (hy : DFin y) (h1 : 0 < zv x) (h2 : 0 < zv y) (hV : 0 ≤ zv V) (h : zv V * zv y ≤ zv x * (one64 : Int)) : zv V ≤ zv (Core.ddiv x y) := by
  have k : (zv V).natAbs * (zv y).natAbs ≤ (zv x).natAbs * one64 := by
    have e1 : ((zv V).natAbs : Int) = zv V := by omega
    have e2 : ((zv y).natAbs : Int) = zv y := by omega
    have e3 : ((zv x).natAbs : Int) = zv x := by omega
    refine Int.ofNat_le.mp ?_
    rw [Int.natCast_mul, Int.natCast_mul, e1, e2, e3]; exact h
  have := div_mag_ge hx hy (Int.ne_of_gt h2) k
  rw [div_nonneg hx hy h1 h2]; omega
theorem div_le {x y V : UInt64} (hx : DFin x) (hy : DFin y) (h1 : 0 < zv x) (h2 : 0 < zv y) (hn : val64 V ≠ .nan) (hV : 0 ≤ zv V) (h : zv x * (one64 : Int) ≤ zv V * zv y) : zv (Core.ddiv x y) ≤ zv V := by
  have k : (zv x).natAbs * one64 ≤ (zv V).natAbs * (zv y).natAbs := by
    have e1 : ((zv V).natAbs : Int) = zv V := by omega
    have e2 : ((zv y).natAbs : Int) = zv y := by omega
    have e3 : ((zv x).natAbs : Int) = zv x := by omega
    refine Int.ofNat_le.mp ?_
    rw [Int.natCast_mul, Int.natCast_mul, e1, e2, e3]; exact h
  have := div_mag_le hx hy (Int.ne_of_gt h2) hn k
  rw [div_nonneg hx hy h1 h2]; omega
theorem signed_inj {s t : Bool} {n : Nat} (hn : n ≠ 0) (h : signed s n = signed t n) : s = t := by
  cases s <;> cases t <;> simp [signed] at h ⊢ <;> omega
theorem xor_back {s t v : Bool} (h : s = (v != t)) : (s != t) = v := by cases s <;> cases t <;> cases v <;> simp_all
/-- the quotient's worth, where it is a double's -/
theorem div_zv {x y V : UInt64} (hx : DFin x) (hy : DFin y) (hz : zv y ≠ 0) (hV : DFin V) (h : zv x * (one64 : Int) = zv V * zv y) : zv (Core.ddiv x y) = zv V := by
  have ha : (zv x).natAbs * one64 = (zv V).natAbs * (zv y).natAbs := by
    have := congrArg Int.natAbs h
    rwa [Int.natAbs_mul, Int.natAbs_mul, Int.natAbs_natCast] at this
  have hm : (zv (Core.ddiv x y)).natAbs = (zv V).natAbs := Nat.le_antisymm (div_mag_le hx hy hz hV.ne_nan (Nat.le_of_eq ha)) (div_mag_ge hx hy hz (Nat.le_of_eq ha.symm))
  rw [zv_sgn (Core.ddiv x y), hm, div_sgn hx hy hz]
  by_cases h0 : (zv V).natAbs = 0
  · rw [h0, Int.natAbs_eq_zero.mp h0]; exact signed_zero _
  · have k : signed (sgn (val64 x)) ((zv x).natAbs * one64) = zv x * (one64 : Int) := by rw [signed_mul, ← zv_sgn]
    rw [ha] at k
    have k2 : signed (sgn (val64 V) != sgn (val64 y)) ((zv V).natAbs * (zv y).natAbs) = zv V * zv y := by rw [signed_xor, ← zv_sgn, ← zv_sgn]
    have e := xor_back (signed_inj (n := (zv V).natAbs * (zv y).natAbs) (Nat.mul_ne_zero h0 (fun q => hz (Int.natAbs_eq_zero.mp q))) (k.trans (h.trans k2.symm)))
    rw [e, ← zv_sgn]
theorem Ra.div {i j r : Int} {D E F k : Nat} {x y : UInt64} (hx : Ra i D x) (hy : Ra j E y) (hD : 0 < D) (hE : 0 < E) (hj : j ≠ 0) (hr : r.natAbs < 9007199254740992) (hF : F = 2 ^ k) (hk : k ≤ 1000) (h : i * (E : Int) * (F : Int) = r * (j * (D : Int))) : Ra r F (FP.ddiv x y) := by
  obtain ⟨V, hV⟩ := rep hr hF hk
  have hF0 : (F : Int) ≠ 0 := by rw [hF]; exact Int.ne_of_gt (Int.natCast_pos.mpr (Nat.two_pow_pos k))
  have hy0 : zv y ≠ 0 := fun q => by
    have := hy.2; rw [q, Int.zero_mul] at this
    exact (Int.mul_ne_zero hj (Int.ne_of_gt oz)) this.symm
  have hs : zv x * (one64 : Int) = zv V * zv y := by
    exact mulc (c := (D : Int)) (by omega) (mulc (c := (E : Int)) (by omega) (mulc hF0 (al_div hx.2 hy.2 hV.2 h)))
  have hz : zv (Core.ddiv x y) = zv V := div_zv hx.1 hy.1 hy0 hV.1 hs
  have hyz : ¬ DZero y := fun q => hy0 (by unfold zv; exact DZero.zval q)
  exact ⟨fin_of ((notNaN_iff _).mp (ddiv_out hx.1.notNaN hy.1 hyz)) hV.1 hz, by show zv (Core.ddiv x y) * _ = _; rw [hz, hV.2]⟩
/-- two quotients of one ratio are of one worth -/
theorem div_alike {x y x' y' : UInt64} (hx : DFin x) (hy : DFin y) (hx' : DFin x') (hy' : DFin y') (hz : zv y ≠ 0) (hz' : zv y' ≠ 0) (h : zv x * zv y' = zv x' * zv y) : zv (Core.ddiv x y) = zv (Core.ddiv x' y') := by
  have ha : (zv x).natAbs * (zv y').natAbs = (zv x').natAbs * (zv y).natAbs := by
    have := congrArg Int.natAbs h
    rwa [Int.natAbs_mul, Int.natAbs_mul] at this
  have hsg := div_sgn hx hy hz
  have hsg' := div_sgn hx' hy' hz'
  obtain ⟨s, t, c, d, q, r, ex, ey, hd, hq, hr, mx, my, hv⟩ := div_parts hx hy hz
  obtain ⟨s', t', c', d', q', r', ex', ey', hd', hq', hr', mx', my', hv'⟩ := div_parts hx' hy' hz'
  have hm : (zv (Core.ddiv x y)).natAbs = (zv (Core.ddiv x' y')).natAbs := by
    rw [zv_abs, zv_abs, zv_abs, zv_abs, mx, my, mx', my'] at ha
    rw [zv_abs, zv_abs, hv, hv']
    have e : roundRatio b64 (s != t) c d (q - r) = roundRatio b64 (s != t) c' d' (q' - r') := by
      refine roundRatio_congr hd hd' ?_
      have g1 : ∃ T, (q - b64.qmin).toNat + (r' - b64.qmin).toNat = (q - r - (q' - r')).toNat + T ∧ (q' - b64.qmin).toNat + (r - b64.qmin).toNat = (q' - r' - (q - r)).toNat + T := ⟨(min ((q - b64.qmin) + (r' - b64.qmin)) ((q' - b64.qmin) + (r - b64.qmin))).toNat, by omega, by omega⟩
      obtain ⟨T, g1, g2⟩ := g1
      refine Nat.eq_of_mul_eq_mul_right (Nat.two_pow_pos T) ?_
      calc c * d' * 2 ^ (q - r - (q' - r')).toNat * 2 ^ T = (c * 2 ^ (q - b64.qmin).toNat) * (d' * 2 ^ (r' - b64.qmin).toNat) := by rw [Nat.mul_assoc, ← Nat.pow_add, ← g1, Nat.pow_add]; ac_rfl
        _ = (c' * 2 ^ (q' - b64.qmin).toNat) * (d * 2 ^ (r - b64.qmin).toNat) := ha
        _ = c' * d * 2 ^ (q' - r' - (q - r)).toNat * 2 ^ T := by rw [Nat.mul_assoc (c' * d), ← Nat.pow_add, ← g2, Nat.pow_add]; ac_rfl
    rw [e]
    rcases roundRatio_cases b64 (s != t) c' d' (q' - r') with ⟨a, b, g⟩ | g <;> rcases roundRatio_cases b64 (s' != t') c' d' (q' - r') with ⟨a', b', g'⟩ | g'
    all_goals first
      | (have := negate_roundRatio b64 (s' != t') c' d' (q' - r')
         by_cases w : (s != t) = (s' != t')
         · rw [w]
         · rw [show (s != t) = !(s' != t') by cases s <;> cases t <;> cases s' <;> cases t' <;> simp_all, ← this]
           rw [g']; rfl)
  rw [zv_sgn (Core.ddiv x y), zv_sgn (Core.ddiv x' y'), hm, hsg, hsg']
  by_cases h0 : (zv (Core.ddiv x' y')).natAbs = 0
  · rw [h0, signed_zero, signed_zero]
  · by_cases hx0 : (zv x').natAbs = 0
    · exfalso; apply h0
      have := div_mag_le (V := (0 : UInt64)) hx' hy' hz' (by rw [val64_zero]; exact Datum.noConfusion) (by rw [hx0, Nat.zero_mul]; exact Nat.zero_le _)
      have z0 : zv 0 = 0 := zval64_zero
      rw [z0] at this; simpa using this
    · congr 1
      have hy1 : (zv y).natAbs ≠ 0 := fun q => hz (Int.natAbs_eq_zero.mp q)
      have k : signed (sgn (val64 x) != sgn (val64 y')) ((zv x').natAbs * (zv y).natAbs) = signed (sgn (val64 x') != sgn (val64 y)) ((zv x').natAbs * (zv y).natAbs) := by
        rw [← ha, signed_xor, ha, signed_xor, ← zv_sgn, ← zv_sgn, ← zv_sgn, ← zv_sgn]; exact h
      have k2 := signed_inj (Nat.mul_ne_zero hx0 hy1) k
      revert k2
      generalize sgn (val64 x) = a; generalize sgn (val64 y) = b; generalize sgn (val64 x') = a'; generalize sgn (val64 y') = b'
      cases a <;> cases b <;> cases a' <;> cases b' <;> simp
/-- comparisons -/
theorem cv_lt {x y : UInt64} (nx : val64 x ≠ .nan) (ny : val64 y ≠ .nan) (h : zv x < zv y) (o : Jvm.ClassFile.CmpOp) : Jvm.Op.cmpValue (FP.dcmp x y) o = -1 := by
  rw [show FP.dcmp x y = some .lt from dcmp_lt.mpr ⟨nx, ny, h⟩]; cases o <;> rfl
theorem cv_eq {x y : UInt64} (nx : val64 x ≠ .nan) (ny : val64 y ≠ .nan) (h : zv x = zv y) (o : Jvm.ClassFile.CmpOp) : Jvm.Op.cmpValue (FP.dcmp x y) o = 0 := by
  rw [show FP.dcmp x y = some .eq from dcmp_eq.mpr ⟨nx, ny, h⟩]; cases o <;> rfl
theorem cv_gt {x y : UInt64} (nx : val64 x ≠ .nan) (ny : val64 y ≠ .nan) (h : zv y < zv x) (o : Jvm.ClassFile.CmpOp) : Jvm.Op.cmpValue (FP.dcmp x y) o = 1 := by
  rw [show FP.dcmp x y = some .gt from dcmp_gt.mpr ⟨nx, ny, h⟩]; cases o <;> rfl
theorem cv_le {x y : UInt64} (nx : val64 x ≠ .nan) (ny : val64 y ≠ .nan) (h : zv x ≤ zv y) (o : Jvm.ClassFile.CmpOp) : ¬ (0 : Int32) < Jvm.Op.cmpValue (FP.dcmp x y) o := by
  rcases Int.lt_or_eq_of_le h with q | q
  · rw [cv_lt nx ny q]; decide
  · rw [cv_eq nx ny q]; decide
theorem cv_ge {x y : UInt64} (nx : val64 x ≠ .nan) (ny : val64 y ≠ .nan) (h : zv y ≤ zv x) (o : Jvm.ClassFile.CmpOp) : ¬ Jvm.Op.cmpValue (FP.dcmp x y) o < (0 : Int32) := by
  rcases Int.lt_or_eq_of_le h with q | q
  · rw [cv_gt nx ny q]; decide
  · rw [cv_eq nx ny q.symm]; decide
theorem cv_lt' {x y : UInt64} (nx : val64 x ≠ .nan) (ny : val64 y ≠ .nan) (h : zv x < zv y) (o : Jvm.ClassFile.CmpOp) : Jvm.Op.cmpValue (FP.dcmp x y) o < (0 : Int32) := by rw [cv_lt nx ny h]; decide
theorem cv_gt' {x y : UInt64} (nx : val64 x ≠ .nan) (ny : val64 y ≠ .nan) (h : zv y < zv x) (o : Jvm.ClassFile.CmpOp) : (0 : Int32) < Jvm.Op.cmpValue (FP.dcmp x y) o := by rw [cv_gt nx ny h]; decide
theorem zv_lt {i j : Int} {D : Nat} {x y : UInt64} (hx : Ra i D x) (hy : Ra j D y) (hD : 0 < D) (h : i < j) : zv x < zv y := by
  refine Int.lt_of_mul_lt_mul_right (a := (D : Int)) ?_ (by omega)
  rw [hx.2, hy.2]; exact Int.mul_lt_mul_of_pos_right h oz
theorem zv_eq {i j : Int} {D : Nat} {x y : UInt64} (hx : Ra i D x) (hy : Ra j D y) (hD : 0 < D) (h : i = j) : zv x = zv y :=
  mulc (c := (D : Int)) (by omega) (by rw [hx.2, hy.2, h])
theorem Ra.lt {i j : Int} {D : Nat} {x y : UInt64} (hx : Ra i D x) (hy : Ra j D y) (hD : 0 < D) (h : i < j) (o : Jvm.ClassFile.CmpOp) : Jvm.Op.cmpValue (FP.dcmp x y) o = -1 := cv_lt hx.ne_nan hy.ne_nan (zv_lt hx hy hD h) o
theorem Ra.gt {i j : Int} {D : Nat} {x y : UInt64} (hx : Ra i D x) (hy : Ra j D y) (hD : 0 < D) (h : j < i) (o : Jvm.ClassFile.CmpOp) : Jvm.Op.cmpValue (FP.dcmp x y) o = 1 := cv_gt hx.ne_nan hy.ne_nan (zv_lt hy hx hD h) o
theorem Ra.eq {i j : Int} {D : Nat} {x y : UInt64} (hx : Ra i D x) (hy : Ra j D y) (hD : 0 < D) (h : i = j) (o : Jvm.ClassFile.CmpOp) : Jvm.Op.cmpValue (FP.dcmp x y) o = 0 := cv_eq hx.ne_nan hy.ne_nan (zv_eq hx hy hD h) o
theorem zv_le {i j : Int} {D : Nat} {x y : UInt64} (hx : Ra i D x) (hy : Ra j D y) (hD : 0 < D) (h : i ≤ j) : zv x ≤ zv y := by
  rcases Int.lt_or_eq_of_le h with q | q
  · exact Int.le_of_lt (zv_lt hx hy hD q)
  · exact Int.le_of_eq (zv_eq hx hy hD q)
theorem Ra.le {i j : Int} {D : Nat} {x y : UInt64} (hx : Ra i D x) (hy : Ra j D y) (hD : 0 < D) (h : i ≤ j) (o : Jvm.ClassFile.CmpOp) : ¬ (0 : Int32) < Jvm.Op.cmpValue (FP.dcmp x y) o := cv_le hx.ne_nan hy.ne_nan (zv_le hx hy hD h) o
theorem Ra.ge {i j : Int} {D : Nat} {x y : UInt64} (hx : Ra i D x) (hy : Ra j D y) (hD : 0 < D) (h : j ≤ i) (o : Jvm.ClassFile.CmpOp) : ¬ Jvm.Op.cmpValue (FP.dcmp x y) o < (0 : Int32) := cv_ge hx.ne_nan hy.ne_nan (zv_le hy hx hD h) o
theorem Ra.lt' {i j : Int} {D : Nat} {x y : UInt64} (hx : Ra i D x) (hy : Ra j D y) (hD : 0 < D) (h : i < j) (o : Jvm.ClassFile.CmpOp) : Jvm.Op.cmpValue (FP.dcmp x y) o < (0 : Int32) := cv_lt' hx.ne_nan hy.ne_nan (zv_lt hx hy hD h) o
theorem Ra.gt' {i j : Int} {D : Nat} {x y : UInt64} (hx : Ra i D x) (hy : Ra j D y) (hD : 0 < D) (h : j < i) (o : Jvm.ClassFile.CmpOp) : (0 : Int32) < Jvm.Op.cmpValue (FP.dcmp x y) o := cv_gt' hx.ne_nan hy.ne_nan (zv_lt hy hx hD h) o
theorem Ra.of_int {i : Int} {x : UInt64} (h : DInt i x) (hf : DFin x) : Ra i 1 x := ⟨hf, by show zval b64 (val64 x) * _ = _; rw [DInt_zval h]; show _ * (1 : Int) = _; rw [Int.mul_one]⟩
theorem Ra.i2d (a : Int32) : Ra a.toInt 1 (FP.i2d a) := Ra.of_int (i2d_int a) (Core.i2d_fin a)
theorem Ra.l2d {a : Int64} (h : a.toInt.natAbs ≤ 9007199254740992) : Ra a.toInt 1 (FP.l2d a) := Ra.of_int (l2d_int h) (Core.l2d_fin a)
/-- a written constant -/
theorem Ra.lit {x : UInt64} {s : Bool} {c D n : Nat} {q i : Int} {k : Nat} (h : val64 x = .fin s c q) (hD : D = 2 ^ k) (hq : q = -((k + n : Nat) : Int)) (hk : k + n ≤ 1074) (e : signed s c = i * ((2 ^ n : Nat) : Int)) : Ra i D x := by
  refine ⟨⟨s, c, q, h⟩, ?_⟩
  unfold zv
  rw [h]
  show signed s (inUnits c q b64.qmin) * _ = _
  unfold inUnits
  have e2 : n + (q - b64.qmin).toNat + k = 1074 := by rw [qmin_b64]; omega
  rw [signed_mul, e, hD, Int.mul_assoc, Int.mul_assoc, ← Int.natCast_mul, ← Int.natCast_mul, ← Nat.pow_add, ← Nat.pow_add, ← Nat.add_assoc, e2]
  rfl
theorem zv_neg (x : UInt64) : zv (FP.dneg x) = -zv x := by unfold zv; rw [Jvm.FP.val64_dneg, zval_negate]
theorem Ra.neg {i : Int} {D : Nat} {x : UInt64} (h : Ra i D x) : Ra (-i) D (FP.dneg x) := by
  obtain ⟨⟨s, c, q, ex⟩, e⟩ := h
  exact ⟨⟨!s, c, q, by rw [Jvm.FP.val64_dneg, ex]; rfl⟩, by rw [zv_neg, Int.neg_mul, e, Int.neg_mul]⟩
/-- exact products of longs -/
theorem lmul_of {x y : Int64} {a b : Int} (hx : x.toInt = a) (hy : y.toInt = b) (h1 : -9223372036854775808 ≤ a * b) (h2 : a * b < 9223372036854775808) : (x * y).toInt = a * b := by
  rw [int64_mul (by rw [hx, hy]; exact h1) (by rw [hx, hy]; exact h2), hx, hy]
theorem ladd_of {x y : Int64} {a b : Int} (hx : x.toInt = a) (hy : y.toInt = b) (h1 : -9223372036854775808 ≤ a + b) (h2 : a + b < 9223372036854775808) : (x + y).toInt = a + b := by
  rw [int64_add (by rw [hx, hy]; exact h1) (by rw [hx, hy]; exact h2), hx, hy]
theorem lsub_of {x y : Int64} {a b : Int} (hx : x.toInt = a) (hy : y.toInt = b) (h1 : -9223372036854775808 ≤ a - b) (h2 : a - b < 9223372036854775808) : (x - y).toInt = a - b := by
  rw [int64_sub (by rw [hx, hy]; exact h1) (by rw [hx, hy]; exact h2), hx, hy]
theorem lneg_of {x : Int64} {a : Int} (hx : x.toInt = a) (h1 : -9223372036854775808 < a) : (-x).toInt = -a := by
  rw [int64_neg (by rw [hx]; exact h1), hx]
theorem i2l_of {x : Int32} {a : Int} (hx : x.toInt = a) : x.toInt64.toInt = a := by rw [Int32.toInt_toInt64, hx]
theorem fin_of_le {x V : UInt64} (hn : val64 x ≠ .nan) (hV : DFin V) (h : (zv x).natAbs ≤ (zv V).natAbs) : DFin x := by
  cases hx : val64 x with
  | nan => exact absurd hx hn
  | fin s c q => exact ⟨s, c, q, hx⟩
  | inf s =>
    exfalso
    have h1 := hV.zval_lt
    rw [zv_abs, zv_abs, hx] at h
    exact absurd (Nat.lt_of_le_of_lt h h1) (Nat.lt_irrefl _)
/-- a bound on the worth bounds the bits -/
theorem mag_of {x : UInt64} {n : Nat} (hx : DFin x) (h : (zv x).natAbs ≤ 2 ^ n * one64) : Mag64 (n + 1024) x := by
  have z := zmag_bits hx.ne_nan
  rw [zv_abs, z] at h
  have hs : unitsOf b64 ((n + 1024) * b64.tails) = b64.tails * 2 ^ (n + 1024 - 1) := unitsOf_start (by omega)
  have ho : 2 ^ n * one64 < b64.tails * 2 ^ (n + 1024 - 1) := by
    rw [tails_b64, ← pow_qmin64, ← Nat.pow_add, ← Nat.pow_add, qmin_b64]
    exact Nat.pow_lt_pow_right (by decide) (by omega)
  have hl : unitsOf b64 (x.toNat % 2 ^ 63) < unitsOf b64 ((n + 1024) * b64.tails) := by rw [hs]; exact Nat.lt_of_le_of_lt h ho
  have hb := unitsOf_lt_iff.mp hl
  rw [tails_b64] at hb
  unfold Mag64
  exact hb
theorem Ra.mag {i : Int} {D n : Nat} {x : UInt64} (h : Ra i D x) (hD : 0 < D) (hi : i.natAbs ≤ 2 ^ n * D) : Mag64 (n + 1024) x := by
  refine mag_of h.1 (Nat.le_of_mul_le_mul_right (c := D) ?_ hD)
  have e := congrArg Int.natAbs h.2
  rw [Int.natAbs_mul, Int.natAbs_mul, Int.natAbs_natCast, Int.natAbs_natCast] at e
  rw [e]
  exact al_mag hi
theorem big_of {x : UInt64} (hx : DFin x) (h : one64 ≤ (zv x).natAbs) : Jvm.RoadKit.Big64 1023 x := by
  have z := zmag_bits hx.ne_nan
  rw [zv_abs, z] at h
  have hs : unitsOf b64 (1023 * b64.tails) = b64.tails * 2 ^ (1023 - 1) := unitsOf_start (by decide)
  have ho : b64.tails * 2 ^ (1023 - 1) = one64 := by rw [tails_b64, ← pow_qmin64, ← Nat.pow_add, qmin_b64]; rfl
  have hl : unitsOf b64 (1023 * b64.tails) ≤ unitsOf b64 (x.toNat % 2 ^ 63) := by rw [hs, ho]; exact h
  have hb := unitsOf_le_iff.mp hl
  rw [tails_b64] at hb
  have hf := (fin_bits x).mp hx
  exact ⟨hb, by omega⟩
theorem Ra.big {i : Int} {x : UInt64} (h : Ra i 1 x) (hi : i ≠ 0) : Jvm.RoadKit.Big64 1023 x := by
  refine big_of h.1 ?_
  have e := congrArg Int.natAbs h.2
  rw [Int.natAbs_mul, Int.natAbs_mul, Int.natAbs_natCast, Int.natAbs_natCast, Nat.mul_one] at e
  rw [e]
  exact Nat.le_mul_of_pos_left _ (Int.natAbs_pos.mpr hi)
theorem ra_zero : Ra 0 1 (0 : UInt64) := ⟨⟨_, _, _, val64_zero⟩, by rw [show zv 0 = 0 from zval64_zero, Int.zero_mul, Int.zero_mul]⟩
theorem ra_one : Ra 1 1 (4607182418800017408 : UInt64) := Ra.lit (s := false) (c := 4503599627370496) (q := -52) (k := 0) (n := 52) (by decide +kernel) rfl (by decide) (by decide) (by decide)
theorem ra_two : Ra 2 1 (4611686018427387904 : UInt64) := Ra.lit (s := false) (c := 4503599627370496) (q := -51) (k := 0) (n := 51) (by decide +kernel) rfl (by decide) (by decide) (by decide)
end Jvm.OwnFP
namespace Jvm.Pilot.@@N@@
open Jvm Jvm.ClassFile Sem Op Lib Jvm.Free Jvm.Stand Jvm.LawKit Jvm.RoadKit Bundle Jvm.Pilot.@@N@@.Jvm.D
theorem d1_0 : decode prog_26_method_1_code 0 = .ok (.aload_n 0, 1) := by decide +kernel
theorem d1_1 : decode prog_26_method_1_code 1 = .ok (.invokespecial 1, 3) := by decide +kernel
theorem d1_4 : decode prog_26_method_1_code 4 = .ok (.return_, 1) := by decide +kernel
theorem pn_com_example_arrivals_arrivals_core_SequenceStatistics : plainName "com/example/arrivals/arrivals/core/SequenceStatistics" = true := by first | (simp [plainName, overriddenIn]; done) | decide +kernel
theorem ef_1_R (m : MethodId) (x0 : Addr) : entryFrame m #[(.ref x0)] 1 = mkF m 0 #[.val (.ref x0)] [] := by first | (simp [entryFrame, mkF, argsToLocals, Value.category]; done) | rfl
def Q_rm1 (Z : State) (t0 : Addr) (h0 : Heap) (n0 : Nat) (v : Option Value) (h : Heap) (L : List Loc) : Prop := v = none ∧ Fr n0 L ∧ h = h0
set_option maxRecDepth 65536 in
set_option maxHeartbeats 40000000 in
theorem rm1 (l : Launch) (Z : State) (a0 : Array Value) (hw : ∀ d ∈ tables_1, d.before a0 Z = true) (ws : List Jvm.Cond) (t0 : Addr) (h0 : Heap) (n0 : Nat) (Z0 : n0 ≤ h0.size) (E_t0 : Exa Z h0 t0 "com/example/arrivals/arrivals/core/SequenceStatistics") :
    MetFree l (⟨"com/example/arrivals/arrivals/core/SequenceStatistics", "<init>", "()V"⟩ : MethodName) (head1 (Jvm.Cond.code (⟨"com/example/arrivals/arrivals/core/SequenceStatistics", "<init>", "()V"⟩ : MethodName) prog_26_method_1_code 1 none :: ws) ({ frames := 1, cells := 0, slots := 0, locals := 12 } : Room)) (fun a U => a = #[(.ref t0)] ∧ Z.Warmed39 U.vm ∧ U.heap = h0) (fun _ _ _ _ _ => True) (fun _ U o U' => ∃ v L, o = .returned v ∧ Q_rm1 Z t0 h0 n0 v U'.heap L ∧ FrameEnd U o U' L ({ frames := 1, cells := 0, slots := 0, locals := 12 } : Room).cells ({ frames := 1, cells := 0, slots := 0, locals := 12 } : Room).slots) := by
  refine MetFree.of_bodySF (plainFor_of_name pn_com_example_arrivals_arrivals_core_SequenceStatistics) hisR ?_
  intro p e s m args below meth c s₁ Bd hml0 hP hK
  obtain ⟨rfl, hZ, hh⟩ := hP
  have hx := Bd.exec
  have hby := Bd.bytes
  have hml : c.maxLocals = 1 := hml0
  have hown : s.vm.findClass "com/example/arrivals/arrivals/core/SequenceStatistics" = some m.cls := findClass_of_methodNamed Bd.named
  have hnm := (name_of_methodNamed Bd.named Bd.method).1
  have X0 : Stand p l e ({ frames := 1, cells := 0, slots := 0, locals := 12 } : Room) s m #[(.ref t0)] below meth c s₁ [] 0 0 := Stand.of_body Bd
  have e0 : s₁.heap = h0 := by rw [← hh, Bd.state]; rfl
  have N0 := Fr.nil n0
  have pre0 : ∀ t, Steps p.tables e below (s₁.setTop (mkF m 0 #[.val (.ref t0)] [])) t → Steps p.tables e below (s₁.setTop (entryFrame m #[(.ref t0)] 1)) t := fun t k => castTop (ef_1_R m t0) k
  obtain ⟨T1, X1, e1, st1⟩ := initO X0 hx hZ hown (hw _ (List.mem_of_getElem? (i := 6) rfl)) (hw _ (List.mem_of_getElem? (i := 7) rfl)) (hw _ (List.mem_of_getElem? (i := 8) rfl)) e0 (g := (mkF m 1 #[.val (.ref t0)] [(.ref t0)])) rfl (by rw [hml]; rfl) rfl (hb hby d1_1) (by decide) (W := 0) (by show 2 * 0 + _ ≤ _; exact Nat.le_of_eq rfl) (by decide)
  obtain ⟨fs, hr, hrun, hended, hW, hsame⟩ := X1.leave (v := none) (fun _ => rfl)
  refine ⟨_, _, pre0 _ ?_, hrun, hended, _, _, rfl, ?_, ⟨_, rfl⟩, hW, hsame.mono (by decide) (by decide)⟩
  · show Steps p.tables e below (s₁.setTop (mkF m 0 #[.val (.ref t0)] [])) _
    refine XS.aloadN X0.here hx rfl (hb hby d1_0) rfl rfl ?_
    show Steps p.tables e below (s₁.setTop (mkF m 1 #[.val (.ref t0)] [(.ref t0)])) _
    refine st1 _ ?_
    show Steps p.tables e below (T1.setTop (mkF m 4 #[.val (.ref t0)] [])) _
    exact X1.returnOut hx Bd.returns (hb hby d1_4) hr
  · show Q_rm1 Z t0 h0 n0 _ T1.heap _
    rw [e1]
    exact ⟨rfl, N0, rfl⟩
theorem d5_0 : decode prog_26_method_5_code 0 = .ok (.aload_n 0, 1) := by decide +kernel
theorem d5_1 : decode prog_26_method_5_code 1 = .ok (.getfield 16, 3) := by decide +kernel
theorem d5_4 : decode prog_26_method_5_code 4 = .ok (.lconst 0, 1) := by decide +kernel
theorem d5_5 : decode prog_26_method_5_code 5 = .ok (.lcmp, 1) := by decide +kernel
theorem d5_6 : decode prog_26_method_5_code 6 = .ok (.ifCond .ne 7, 3) := by decide +kernel
theorem d5_9 : decode prog_26_method_5_code 9 = .ok (.dconst 0, 1) := by decide +kernel
theorem d5_10 : decode prog_26_method_5_code 10 = .ok (.goto 12, 3) := by decide +kernel
theorem d5_22 : decode prog_26_method_5_code 22 = .ok (.dreturn, 1) := by decide +kernel
theorem ef_5_R (m : MethodId) (x0 : Addr) : entryFrame m #[(.ref x0)] 1 = mkF m 0 #[.val (.ref x0)] [] := by first | (simp [entryFrame, mkF, argsToLocals, Value.category]; done) | rfl
def Q_rm5_0 (Z : State) (t0 : Addr) (h0 : Heap) (n0 : Nat) (v : Option Value) (h : Heap) (L : List Loc) : Prop := v = some (.double (0 : UInt64)) ∧ Fr n0 L ∧ h = h0
set_option maxRecDepth 65536 in
set_option maxHeartbeats 40000000 in
theorem rm5_0 (l : Launch) (Z : State) (a0 : Array Value) (hw : ∀ d ∈ tables_1, d.before a0 Z = true) (ws : List Jvm.Cond) (t0 : Addr) (h0 : Heap) (n0 : Nat) (Z0 : n0 ≤ h0.size) (F_count_t0 : Fld Z h0 t0 "com/example/arrivals/arrivals/core/SequenceStatistics" "count" "J" (.long (0 : Int64))) :
    MetFree l (⟨"com/example/arrivals/arrivals/core/SequenceStatistics", "meanOnline", "()D"⟩ : MethodName) (head1 (Jvm.Cond.code (⟨"com/example/arrivals/arrivals/core/SequenceStatistics", "meanOnline", "()D"⟩ : MethodName) prog_26_method_5_code 1 (some .double) :: ws) ({ frames := 0, cells := 0, slots := 0, locals := 0 } : Room)) (fun a U => a = #[(.ref t0)] ∧ Z.Warmed39 U.vm ∧ U.heap = h0) (fun _ _ _ _ _ => True) (fun _ U o U' => ∃ v L, o = .returned v ∧ Q_rm5_0 Z t0 h0 n0 v U'.heap L ∧ FrameEnd U o U' L ({ frames := 0, cells := 0, slots := 0, locals := 0 } : Room).cells ({ frames := 0, cells := 0, slots := 0, locals := 0 } : Room).slots) := by
  refine MetFree.of_bodySF (plainFor_of_name pn_com_example_arrivals_arrivals_core_SequenceStatistics) hisR ?_
  intro p e s m args below meth c s₁ Bd hml0 hP hK
  obtain ⟨rfl, hZ, hh⟩ := hP
  have hx := Bd.exec
  have hby := Bd.bytes
  have hml : c.maxLocals = 1 := hml0
  have hown : s.vm.findClass "com/example/arrivals/arrivals/core/SequenceStatistics" = some m.cls := findClass_of_methodNamed Bd.named
  have hnm := (name_of_methodNamed Bd.named Bd.method).1
  have X0 : Stand p l e ({ frames := 0, cells := 0, slots := 0, locals := 0 } : Room) s m #[(.ref t0)] below meth c s₁ [] 0 0 := Stand.of_body Bd
  have e0 : s₁.heap = h0 := by rw [← hh, Bd.state]; rfl
  have N0 := Fr.nil n0
  have pre0 : ∀ t, Steps p.tables e below (s₁.setTop (mkF m 0 #[.val (.ref t0)] [])) t → Steps p.tables e below (s₁.setTop (entryFrame m #[(.ref t0)] 1)) t := fun t k => castTop (ef_5_R m t0) k
  obtain ⟨T1, X1, e1, st1⟩ := getF X0 hx hZ hown (host := "") (Or.inl (hw _ (List.mem_of_getElem? (i := 27) rfl))) Via.refl e0 F_count_t0 (g := (mkF m 1 #[.val (.ref t0)] [(.ref t0)])) rfl rfl (hb hby d5_1)
  obtain ⟨fs, hr, hrun, hended, hW, hsame⟩ := X1.leave (v := some (.double (0 : UInt64))) (fun h => by rw [Bd.returns] at h; cases h)
  refine ⟨_, _, pre0 _ ?_, hrun, hended, _, _, rfl, ?_, ⟨_, rfl⟩, hW, hsame.mono (by decide) (by decide)⟩
  · show Steps p.tables e below (s₁.setTop (mkF m 0 #[.val (.ref t0)] [])) _
    refine XS.aloadN X0.here hx rfl (hb hby d5_0) rfl rfl ?_
    show Steps p.tables e below (s₁.setTop (mkF m 1 #[.val (.ref t0)] [(.ref t0)])) _
    refine st1 _ ?_
    show Steps p.tables e below (T1.setTop (mkF m 4 #[.val (.ref t0)] [(.long (0 : Int64))])) _
    refine XS.lconst X1.here hx rfl (hb hby d5_4) ?_
    show Steps p.tables e below (T1.setTop (mkF m 5 #[.val (.ref t0)] [(.long (0 : Int64)), (.long (0 : Int64))])) _
    refine XS.lcmp X1.here hx rfl (hb hby d5_5) rfl ?_
    show Steps p.tables e below (T1.setTop (mkF m 6 #[.val (.ref t0)] [(.int (lcmpW (0 : Int64) (0 : Int64)))])) _
    rw [show (lcmpW (0 : Int64) (0 : Int64)) = (0 : Int32) by decide]
    show Steps p.tables e below (T1.setTop (mkF m 6 #[.val (.ref t0)] [(.int (0 : Int32))])) _
    refine XS.ifNo X1.here hx rfl (hb hby d5_6) rfl ((if0 _ _).trans (teq (by decide : (0 : Int32) = (0 : Int32))).2) ?_
    show Steps p.tables e below (T1.setTop (mkF m 9 #[.val (.ref t0)] [])) _
    refine XS.dconst0 X1.here hx rfl (hb hby d5_9) (v := (0 : UInt64)) rfl ?_
    show Steps p.tables e below (T1.setTop (mkF m 10 #[.val (.ref t0)] [(.double (0 : UInt64))])) _
    refine XS.goto X1.here hx rfl (pc0 := 10) (pc' := 22) rfl (hb hby d5_10) (by decide) (by decide) ?_
    show Steps p.tables e below (T1.setTop (mkF m 22 #[.val (.ref t0)] [(.double (0 : UInt64))])) _
    exact retOut X1 hx Bd.returns rfl (Or.inr (Or.inr (Or.inl ⟨rfl, rfl, _, rfl⟩))) (hb hby d5_22) hr
  · show Q_rm5_0 Z t0 h0 n0 _ T1.heap _
    rw [e1]
    exact ⟨rfl, N0, rfl⟩
theorem d5_13 : decode prog_26_method_5_code 13 = .ok (.aload_n 0, 1) := by decide +kernel
theorem d5_14 : decode prog_26_method_5_code 14 = .ok (.getfield 24, 3) := by decide +kernel
theorem d5_17 : decode prog_26_method_5_code 17 = .ok (.aload_n 0, 1) := by decide +kernel
theorem d5_18 : decode prog_26_method_5_code 18 = .ok (.getfield 20, 3) := by decide +kernel
theorem d5_21 : decode prog_26_method_5_code 21 = .ok (.ddiv, 1) := by decide +kernel
def Q_rm5_1 (Z : State) (t0 : Addr) (w : UInt64) (x : UInt64) (h0 : Heap) (n0 : Nat) (v : Option Value) (h : Heap) (L : List Loc) : Prop := v = some (.double (FP.ddiv x w)) ∧ Fr n0 L ∧ h = h0
set_option maxRecDepth 65536 in
set_option maxHeartbeats 40000000 in
theorem rm5_1 (l : Launch) (Z : State) (a0 : Array Value) (hw : ∀ d ∈ tables_1, d.before a0 Z = true) (ws : List Jvm.Cond) (t0 : Addr) (w : UInt64) (x : UInt64) (h0 : Heap) (n0 : Nat) (Z0 : n0 ≤ h0.size) (F_count_t0 : Fld Z h0 t0 "com/example/arrivals/arrivals/core/SequenceStatistics" "count" "J" (.long (1 : Int64))) (F_sumOnline_t0 : Fld Z h0 t0 "com/example/arrivals/arrivals/core/SequenceStatistics" "sumOnline" "D" (.double x)) (F_weight_t0 : Fld Z h0 t0 "com/example/arrivals/arrivals/core/SequenceStatistics" "weight" "D" (.double w)) (nn21 : Jvm.Free.Fl.NoNaN64 (FP.ddiv x w)) :
    MetFree l (⟨"com/example/arrivals/arrivals/core/SequenceStatistics", "meanOnline", "()D"⟩ : MethodName) (head1 (Jvm.Cond.code (⟨"com/example/arrivals/arrivals/core/SequenceStatistics", "meanOnline", "()D"⟩ : MethodName) prog_26_method_5_code 1 (some .double) :: ws) ({ frames := 0, cells := 0, slots := 0, locals := 0 } : Room)) (fun a U => a = #[(.ref t0)] ∧ Z.Warmed39 U.vm ∧ U.heap = h0) (fun _ _ _ _ _ => True) (fun _ U o U' => ∃ v L, o = .returned v ∧ Q_rm5_1 Z t0 w x h0 n0 v U'.heap L ∧ FrameEnd U o U' L ({ frames := 0, cells := 0, slots := 0, locals := 0 } : Room).cells ({ frames := 0, cells := 0, slots := 0, locals := 0 } : Room).slots) := by
  refine MetFree.of_bodySF (plainFor_of_name pn_com_example_arrivals_arrivals_core_SequenceStatistics) hisR ?_
  intro p e s m args below meth c s₁ Bd hml0 hP hK
  obtain ⟨rfl, hZ, hh⟩ := hP
  have hx := Bd.exec
  have hby := Bd.bytes
  have hml : c.maxLocals = 1 := hml0
  have hown : s.vm.findClass "com/example/arrivals/arrivals/core/SequenceStatistics" = some m.cls := findClass_of_methodNamed Bd.named
  have hnm := (name_of_methodNamed Bd.named Bd.method).1
  have X0 : Stand p l e ({ frames := 0, cells := 0, slots := 0, locals := 0 } : Room) s m #[(.ref t0)] below meth c s₁ [] 0 0 := Stand.of_body Bd
  have e0 : s₁.heap = h0 := by rw [← hh, Bd.state]; rfl
  have N0 := Fr.nil n0
  have pre0 : ∀ t, Steps p.tables e below (s₁.setTop (mkF m 0 #[.val (.ref t0)] [])) t → Steps p.tables e below (s₁.setTop (entryFrame m #[(.ref t0)] 1)) t := fun t k => castTop (ef_5_R m t0) k
  obtain ⟨T1, X1, e1, st1⟩ := getF X0 hx hZ hown (host := "") (Or.inl (hw _ (List.mem_of_getElem? (i := 27) rfl))) Via.refl e0 F_count_t0 (g := (mkF m 1 #[.val (.ref t0)] [(.ref t0)])) rfl rfl (hb hby d5_1)
  obtain ⟨T2, X2, e2, st2⟩ := getF X1 hx hZ hown (host := "") (Or.inl (hw _ (List.mem_of_getElem? (i := 36) rfl))) Via.refl e1 F_sumOnline_t0 (g := (mkF m 14 #[.val (.ref t0)] [(.ref t0)])) rfl rfl (hb hby d5_14)
  obtain ⟨T3, X3, e3, st3⟩ := getF X2 hx hZ hown (host := "") (Or.inl (hw _ (List.mem_of_getElem? (i := 34) rfl))) Via.refl e2 F_weight_t0 (g := (mkF m 18 #[.val (.ref t0)] [(.ref t0), (.double x)])) rfl rfl (hb hby d5_18)
  obtain ⟨fs, hr, hrun, hended, hW, hsame⟩ := X3.leave (v := some (.double (FP.ddiv x w))) (fun h => by rw [Bd.returns] at h; cases h)
  refine ⟨_, _, pre0 _ ?_, hrun, hended, _, _, rfl, ?_, ⟨_, rfl⟩, hW, hsame.mono (by decide) (by decide)⟩
  · show Steps p.tables e below (s₁.setTop (mkF m 0 #[.val (.ref t0)] [])) _
    refine XS.aloadN X0.here hx rfl (hb hby d5_0) rfl rfl ?_
    show Steps p.tables e below (s₁.setTop (mkF m 1 #[.val (.ref t0)] [(.ref t0)])) _
    refine st1 _ ?_
    show Steps p.tables e below (T1.setTop (mkF m 4 #[.val (.ref t0)] [(.long (1 : Int64))])) _
    refine XS.lconst X1.here hx rfl (hb hby d5_4) ?_
    show Steps p.tables e below (T1.setTop (mkF m 5 #[.val (.ref t0)] [(.long (0 : Int64)), (.long (1 : Int64))])) _
    refine XS.lcmp X1.here hx rfl (hb hby d5_5) rfl ?_
    show Steps p.tables e below (T1.setTop (mkF m 6 #[.val (.ref t0)] [(.int (lcmpW (1 : Int64) (0 : Int64)))])) _
    rw [show (lcmpW (1 : Int64) (0 : Int64)) = (1 : Int32) by decide]
    show Steps p.tables e below (T1.setTop (mkF m 6 #[.val (.ref t0)] [(.int (1 : Int32))])) _
    refine XS.ifYes X1.here hx rfl (pc0 := 6) (pc' := 13) rfl (hb hby d5_6) rfl ((if0 _ _).trans (feq (by decide : ¬ ((1 : Int32) = (0 : Int32)))).2) (by decide) (by decide) ?_
    show Steps p.tables e below (T1.setTop (mkF m 13 #[.val (.ref t0)] [])) _
    refine XS.aloadN X1.here hx rfl (hb hby d5_13) rfl rfl ?_
    show Steps p.tables e below (T1.setTop (mkF m 14 #[.val (.ref t0)] [(.ref t0)])) _
    refine st2 _ ?_
    show Steps p.tables e below (T2.setTop (mkF m 17 #[.val (.ref t0)] [(.double x)])) _
    refine XS.aloadN X2.here hx rfl (hb hby d5_17) rfl rfl ?_
    show Steps p.tables e below (T2.setTop (mkF m 18 #[.val (.ref t0)] [(.ref t0), (.double x)])) _
    refine st3 _ ?_
    show Steps p.tables e below (T3.setTop (mkF m 21 #[.val (.ref t0)] [(.double w), (.double x)])) _
    refine XS.ddivS X3.here hx rfl (hb hby d5_21) rfl nn21 (v := (FP.ddiv x w)) rfl ?_
    show Steps p.tables e below (T3.setTop (mkF m 22 #[.val (.ref t0)] [(.double (FP.ddiv x w))])) _
    exact retOut X3 hx Bd.returns rfl (Or.inr (Or.inr (Or.inl ⟨rfl, rfl, _, rfl⟩))) (hb hby d5_22) hr
  · show Q_rm5_1 Z t0 w x h0 n0 _ T3.heap _
    rw [e3]
    exact ⟨rfl, N0, rfl⟩
def Q_rm5_2 (Z : State) (t0 : Addr) (w : UInt64) (x : UInt64) (h0 : Heap) (n0 : Nat) (v : Option Value) (h : Heap) (L : List Loc) : Prop := v = some (.double (FP.ddiv x w)) ∧ Fr n0 L ∧ h = h0
set_option maxRecDepth 65536 in
set_option maxHeartbeats 40000000 in
theorem rm5_2 (l : Launch) (Z : State) (a0 : Array Value) (hw : ∀ d ∈ tables_1, d.before a0 Z = true) (ws : List Jvm.Cond) (t0 : Addr) (w : UInt64) (x : UInt64) (h0 : Heap) (n0 : Nat) (Z0 : n0 ≤ h0.size) (F_count_t0 : Fld Z h0 t0 "com/example/arrivals/arrivals/core/SequenceStatistics" "count" "J" (.long (2 : Int64))) (F_sumOnline_t0 : Fld Z h0 t0 "com/example/arrivals/arrivals/core/SequenceStatistics" "sumOnline" "D" (.double x)) (F_weight_t0 : Fld Z h0 t0 "com/example/arrivals/arrivals/core/SequenceStatistics" "weight" "D" (.double w)) (nn21 : Jvm.Free.Fl.NoNaN64 (FP.ddiv x w)) :
    MetFree l (⟨"com/example/arrivals/arrivals/core/SequenceStatistics", "meanOnline", "()D"⟩ : MethodName) (head1 (Jvm.Cond.code (⟨"com/example/arrivals/arrivals/core/SequenceStatistics", "meanOnline", "()D"⟩ : MethodName) prog_26_method_5_code 1 (some .double) :: ws) ({ frames := 0, cells := 0, slots := 0, locals := 0 } : Room)) (fun a U => a = #[(.ref t0)] ∧ Z.Warmed39 U.vm ∧ U.heap = h0) (fun _ _ _ _ _ => True) (fun _ U o U' => ∃ v L, o = .returned v ∧ Q_rm5_2 Z t0 w x h0 n0 v U'.heap L ∧ FrameEnd U o U' L ({ frames := 0, cells := 0, slots := 0, locals := 0 } : Room).cells ({ frames := 0, cells := 0, slots := 0, locals := 0 } : Room).slots) := by
  refine MetFree.of_bodySF (plainFor_of_name pn_com_example_arrivals_arrivals_core_SequenceStatistics) hisR ?_
  intro p e s m args below meth c s₁ Bd hml0 hP hK
  obtain ⟨rfl, hZ, hh⟩ := hP
  have hx := Bd.exec
  have hby := Bd.bytes
  have hml : c.maxLocals = 1 := hml0
  have hown : s.vm.findClass "com/example/arrivals/arrivals/core/SequenceStatistics" = some m.cls := findClass_of_methodNamed Bd.named
  have hnm := (name_of_methodNamed Bd.named Bd.method).1
  have X0 : Stand p l e ({ frames := 0, cells := 0, slots := 0, locals := 0 } : Room) s m #[(.ref t0)] below meth c s₁ [] 0 0 := Stand.of_body Bd
  have e0 : s₁.heap = h0 := by rw [← hh, Bd.state]; rfl
  have N0 := Fr.nil n0
  have pre0 : ∀ t, Steps p.tables e below (s₁.setTop (mkF m 0 #[.val (.ref t0)] [])) t → Steps p.tables e below (s₁.setTop (entryFrame m #[(.ref t0)] 1)) t := fun t k => castTop (ef_5_R m t0) k
  obtain ⟨T1, X1, e1, st1⟩ := getF X0 hx hZ hown (host := "") (Or.inl (hw _ (List.mem_of_getElem? (i := 27) rfl))) Via.refl e0 F_count_t0 (g := (mkF m 1 #[.val (.ref t0)] [(.ref t0)])) rfl rfl (hb hby d5_1)
  obtain ⟨T2, X2, e2, st2⟩ := getF X1 hx hZ hown (host := "") (Or.inl (hw _ (List.mem_of_getElem? (i := 36) rfl))) Via.refl e1 F_sumOnline_t0 (g := (mkF m 14 #[.val (.ref t0)] [(.ref t0)])) rfl rfl (hb hby d5_14)
  obtain ⟨T3, X3, e3, st3⟩ := getF X2 hx hZ hown (host := "") (Or.inl (hw _ (List.mem_of_getElem? (i := 34) rfl))) Via.refl e2 F_weight_t0 (g := (mkF m 18 #[.val (.ref t0)] [(.ref t0), (.double x)])) rfl rfl (hb hby d5_18)
  obtain ⟨fs, hr, hrun, hended, hW, hsame⟩ := X3.leave (v := some (.double (FP.ddiv x w))) (fun h => by rw [Bd.returns] at h; cases h)
  refine ⟨_, _, pre0 _ ?_, hrun, hended, _, _, rfl, ?_, ⟨_, rfl⟩, hW, hsame.mono (by decide) (by decide)⟩
  · show Steps p.tables e below (s₁.setTop (mkF m 0 #[.val (.ref t0)] [])) _
    refine XS.aloadN X0.here hx rfl (hb hby d5_0) rfl rfl ?_
    show Steps p.tables e below (s₁.setTop (mkF m 1 #[.val (.ref t0)] [(.ref t0)])) _
    refine st1 _ ?_
    show Steps p.tables e below (T1.setTop (mkF m 4 #[.val (.ref t0)] [(.long (2 : Int64))])) _
    refine XS.lconst X1.here hx rfl (hb hby d5_4) ?_
    show Steps p.tables e below (T1.setTop (mkF m 5 #[.val (.ref t0)] [(.long (0 : Int64)), (.long (2 : Int64))])) _
    refine XS.lcmp X1.here hx rfl (hb hby d5_5) rfl ?_
    show Steps p.tables e below (T1.setTop (mkF m 6 #[.val (.ref t0)] [(.int (lcmpW (2 : Int64) (0 : Int64)))])) _
    rw [show (lcmpW (2 : Int64) (0 : Int64)) = (1 : Int32) by decide]
    show Steps p.tables e below (T1.setTop (mkF m 6 #[.val (.ref t0)] [(.int (1 : Int32))])) _
    refine XS.ifYes X1.here hx rfl (pc0 := 6) (pc' := 13) rfl (hb hby d5_6) rfl ((if0 _ _).trans (feq (by decide : ¬ ((1 : Int32) = (0 : Int32)))).2) (by decide) (by decide) ?_
    show Steps p.tables e below (T1.setTop (mkF m 13 #[.val (.ref t0)] [])) _
    refine XS.aloadN X1.here hx rfl (hb hby d5_13) rfl rfl ?_
    show Steps p.tables e below (T1.setTop (mkF m 14 #[.val (.ref t0)] [(.ref t0)])) _
    refine st2 _ ?_
    show Steps p.tables e below (T2.setTop (mkF m 17 #[.val (.ref t0)] [(.double x)])) _
    refine XS.aloadN X2.here hx rfl (hb hby d5_17) rfl rfl ?_
    show Steps p.tables e below (T2.setTop (mkF m 18 #[.val (.ref t0)] [(.ref t0), (.double x)])) _
    refine st3 _ ?_
    show Steps p.tables e below (T3.setTop (mkF m 21 #[.val (.ref t0)] [(.double w), (.double x)])) _
    refine XS.ddivS X3.here hx rfl (hb hby d5_21) rfl nn21 (v := (FP.ddiv x w)) rfl ?_
    show Steps p.tables e below (T3.setTop (mkF m 22 #[.val (.ref t0)] [(.double (FP.ddiv x w))])) _
    exact retOut X3 hx Bd.returns rfl (Or.inr (Or.inr (Or.inl ⟨rfl, rfl, _, rfl⟩))) (hb hby d5_22) hr
  · show Q_rm5_2 Z t0 w x h0 n0 _ T3.heap _
    rw [e3]
    exact ⟨rfl, N0, rfl⟩
theorem d6_0 : decode prog_26_method_6_code 0 = .ok (.aload_n 0, 1) := by decide +kernel
theorem d6_1 : decode prog_26_method_6_code 1 = .ok (.getfield 16, 3) := by decide +kernel
theorem d6_4 : decode prog_26_method_6_code 4 = .ok (.lconst 0, 1) := by decide +kernel
theorem d6_5 : decode prog_26_method_6_code 5 = .ok (.lcmp, 1) := by decide +kernel
theorem d6_6 : decode prog_26_method_6_code 6 = .ok (.ifCond .ne 7, 3) := by decide +kernel
theorem d6_9 : decode prog_26_method_6_code 9 = .ok (.dconst 0, 1) := by decide +kernel
theorem d6_10 : decode prog_26_method_6_code 10 = .ok (.goto 12, 3) := by decide +kernel
theorem d6_22 : decode prog_26_method_6_code 22 = .ok (.dreturn, 1) := by decide +kernel
theorem ef_6_R (m : MethodId) (x0 : Addr) : entryFrame m #[(.ref x0)] 1 = mkF m 0 #[.val (.ref x0)] [] := by first | (simp [entryFrame, mkF, argsToLocals, Value.category]; done) | rfl
def Q_rm6_0 (Z : State) (t0 : Addr) (h0 : Heap) (n0 : Nat) (v : Option Value) (h : Heap) (L : List Loc) : Prop := v = some (.double (0 : UInt64)) ∧ Fr n0 L ∧ h = h0
set_option maxRecDepth 65536 in
set_option maxHeartbeats 40000000 in
theorem rm6_0 (l : Launch) (Z : State) (a0 : Array Value) (hw : ∀ d ∈ tables_1, d.before a0 Z = true) (ws : List Jvm.Cond) (t0 : Addr) (h0 : Heap) (n0 : Nat) (Z0 : n0 ≤ h0.size) (F_count_t0 : Fld Z h0 t0 "com/example/arrivals/arrivals/core/SequenceStatistics" "count" "J" (.long (0 : Int64))) :
    MetFree l (⟨"com/example/arrivals/arrivals/core/SequenceStatistics", "meanOptimum", "()D"⟩ : MethodName) (head1 (Jvm.Cond.code (⟨"com/example/arrivals/arrivals/core/SequenceStatistics", "meanOptimum", "()D"⟩ : MethodName) prog_26_method_6_code 1 (some .double) :: ws) ({ frames := 0, cells := 0, slots := 0, locals := 0 } : Room)) (fun a U => a = #[(.ref t0)] ∧ Z.Warmed39 U.vm ∧ U.heap = h0) (fun _ _ _ _ _ => True) (fun _ U o U' => ∃ v L, o = .returned v ∧ Q_rm6_0 Z t0 h0 n0 v U'.heap L ∧ FrameEnd U o U' L ({ frames := 0, cells := 0, slots := 0, locals := 0 } : Room).cells ({ frames := 0, cells := 0, slots := 0, locals := 0 } : Room).slots) := by
  refine MetFree.of_bodySF (plainFor_of_name pn_com_example_arrivals_arrivals_core_SequenceStatistics) hisR ?_
  intro p e s m args below meth c s₁ Bd hml0 hP hK
  obtain ⟨rfl, hZ, hh⟩ := hP
  have hx := Bd.exec
  have hby := Bd.bytes
  have hml : c.maxLocals = 1 := hml0
  have hown : s.vm.findClass "com/example/arrivals/arrivals/core/SequenceStatistics" = some m.cls := findClass_of_methodNamed Bd.named
  have hnm := (name_of_methodNamed Bd.named Bd.method).1
  have X0 : Stand p l e ({ frames := 0, cells := 0, slots := 0, locals := 0 } : Room) s m #[(.ref t0)] below meth c s₁ [] 0 0 := Stand.of_body Bd
  have e0 : s₁.heap = h0 := by rw [← hh, Bd.state]; rfl
  have N0 := Fr.nil n0
  have pre0 : ∀ t, Steps p.tables e below (s₁.setTop (mkF m 0 #[.val (.ref t0)] [])) t → Steps p.tables e below (s₁.setTop (entryFrame m #[(.ref t0)] 1)) t := fun t k => castTop (ef_6_R m t0) k
  obtain ⟨T1, X1, e1, st1⟩ := getF X0 hx hZ hown (host := "") (Or.inl (hw _ (List.mem_of_getElem? (i := 27) rfl))) Via.refl e0 F_count_t0 (g := (mkF m 1 #[.val (.ref t0)] [(.ref t0)])) rfl rfl (hb hby d6_1)
  obtain ⟨fs, hr, hrun, hended, hW, hsame⟩ := X1.leave (v := some (.double (0 : UInt64))) (fun h => by rw [Bd.returns] at h; cases h)
  refine ⟨_, _, pre0 _ ?_, hrun, hended, _, _, rfl, ?_, ⟨_, rfl⟩, hW, hsame.mono (by decide) (by decide)⟩
  · show Steps p.tables e below (s₁.setTop (mkF m 0 #[.val (.ref t0)] [])) _
    refine XS.aloadN X0.here hx rfl (hb hby d6_0) rfl rfl ?_
    show Steps p.tables e below (s₁.setTop (mkF m 1 #[.val (.ref t0)] [(.ref t0)])) _
    refine st1 _ ?_
    show Steps p.tables e below (T1.setTop (mkF m 4 #[.val (.ref t0)] [(.long (0 : Int64))])) _
    refine XS.lconst X1.here hx rfl (hb hby d6_4) ?_
    show Steps p.tables e below (T1.setTop (mkF m 5 #[.val (.ref t0)] [(.long (0 : Int64)), (.long (0 : Int64))])) _
    refine XS.lcmp X1.here hx rfl (hb hby d6_5) rfl ?_
    show Steps p.tables e below (T1.setTop (mkF m 6 #[.val (.ref t0)] [(.int (lcmpW (0 : Int64) (0 : Int64)))])) _
    rw [show (lcmpW (0 : Int64) (0 : Int64)) = (0 : Int32) by decide]
    show Steps p.tables e below (T1.setTop (mkF m 6 #[.val (.ref t0)] [(.int (0 : Int32))])) _
    refine XS.ifNo X1.here hx rfl (hb hby d6_6) rfl ((if0 _ _).trans (teq (by decide : (0 : Int32) = (0 : Int32))).2) ?_
    show Steps p.tables e below (T1.setTop (mkF m 9 #[.val (.ref t0)] [])) _
    refine XS.dconst0 X1.here hx rfl (hb hby d6_9) (v := (0 : UInt64)) rfl ?_
    show Steps p.tables e below (T1.setTop (mkF m 10 #[.val (.ref t0)] [(.double (0 : UInt64))])) _
    refine XS.goto X1.here hx rfl (pc0 := 10) (pc' := 22) rfl (hb hby d6_10) (by decide) (by decide) ?_
    show Steps p.tables e below (T1.setTop (mkF m 22 #[.val (.ref t0)] [(.double (0 : UInt64))])) _
    exact retOut X1 hx Bd.returns rfl (Or.inr (Or.inr (Or.inl ⟨rfl, rfl, _, rfl⟩))) (hb hby d6_22) hr
  · show Q_rm6_0 Z t0 h0 n0 _ T1.heap _
    rw [e1]
    exact ⟨rfl, N0, rfl⟩
theorem d6_13 : decode prog_26_method_6_code 13 = .ok (.aload_n 0, 1) := by decide +kernel
theorem d6_14 : decode prog_26_method_6_code 14 = .ok (.getfield 27, 3) := by decide +kernel
theorem d6_17 : decode prog_26_method_6_code 17 = .ok (.aload_n 0, 1) := by decide +kernel
theorem d6_18 : decode prog_26_method_6_code 18 = .ok (.getfield 20, 3) := by decide +kernel
theorem d6_21 : decode prog_26_method_6_code 21 = .ok (.ddiv, 1) := by decide +kernel
def Q_rm6_1 (Z : State) (t0 : Addr) (w : UInt64) (x : UInt64) (h0 : Heap) (n0 : Nat) (v : Option Value) (h : Heap) (L : List Loc) : Prop := v = some (.double (FP.ddiv x w)) ∧ Fr n0 L ∧ h = h0
set_option maxRecDepth 65536 in
set_option maxHeartbeats 40000000 in
theorem rm6_1 (l : Launch) (Z : State) (a0 : Array Value) (hw : ∀ d ∈ tables_1, d.before a0 Z = true) (ws : List Jvm.Cond) (t0 : Addr) (w : UInt64) (x : UInt64) (h0 : Heap) (n0 : Nat) (Z0 : n0 ≤ h0.size) (F_count_t0 : Fld Z h0 t0 "com/example/arrivals/arrivals/core/SequenceStatistics" "count" "J" (.long (1 : Int64))) (F_sumOptimum_t0 : Fld Z h0 t0 "com/example/arrivals/arrivals/core/SequenceStatistics" "sumOptimum" "D" (.double x)) (F_weight_t0 : Fld Z h0 t0 "com/example/arrivals/arrivals/core/SequenceStatistics" "weight" "D" (.double w)) (nn21 : Jvm.Free.Fl.NoNaN64 (FP.ddiv x w)) :
    MetFree l (⟨"com/example/arrivals/arrivals/core/SequenceStatistics", "meanOptimum", "()D"⟩ : MethodName) (head1 (Jvm.Cond.code (⟨"com/example/arrivals/arrivals/core/SequenceStatistics", "meanOptimum", "()D"⟩ : MethodName) prog_26_method_6_code 1 (some .double) :: ws) ({ frames := 0, cells := 0, slots := 0, locals := 0 } : Room)) (fun a U => a = #[(.ref t0)] ∧ Z.Warmed39 U.vm ∧ U.heap = h0) (fun _ _ _ _ _ => True) (fun _ U o U' => ∃ v L, o = .returned v ∧ Q_rm6_1 Z t0 w x h0 n0 v U'.heap L ∧ FrameEnd U o U' L ({ frames := 0, cells := 0, slots := 0, locals := 0 } : Room).cells ({ frames := 0, cells := 0, slots := 0, locals := 0 } : Room).slots) := by
  refine MetFree.of_bodySF (plainFor_of_name pn_com_example_arrivals_arrivals_core_SequenceStatistics) hisR ?_
  intro p e s m args below meth c s₁ Bd hml0 hP hK
  obtain ⟨rfl, hZ, hh⟩ := hP
  have hx := Bd.exec
  have hby := Bd.bytes
  have hml : c.maxLocals = 1 := hml0
  have hown : s.vm.findClass "com/example/arrivals/arrivals/core/SequenceStatistics" = some m.cls := findClass_of_methodNamed Bd.named
  have hnm := (name_of_methodNamed Bd.named Bd.method).1
  have X0 : Stand p l e ({ frames := 0, cells := 0, slots := 0, locals := 0 } : Room) s m #[(.ref t0)] below meth c s₁ [] 0 0 := Stand.of_body Bd
  have e0 : s₁.heap = h0 := by rw [← hh, Bd.state]; rfl
  have N0 := Fr.nil n0
  have pre0 : ∀ t, Steps p.tables e below (s₁.setTop (mkF m 0 #[.val (.ref t0)] [])) t → Steps p.tables e below (s₁.setTop (entryFrame m #[(.ref t0)] 1)) t := fun t k => castTop (ef_6_R m t0) k
  obtain ⟨T1, X1, e1, st1⟩ := getF X0 hx hZ hown (host := "") (Or.inl (hw _ (List.mem_of_getElem? (i := 27) rfl))) Via.refl e0 F_count_t0 (g := (mkF m 1 #[.val (.ref t0)] [(.ref t0)])) rfl rfl (hb hby d6_1)
  obtain ⟨T2, X2, e2, st2⟩ := getF X1 hx hZ hown (host := "") (Or.inl (hw _ (List.mem_of_getElem? (i := 38) rfl))) Via.refl e1 F_sumOptimum_t0 (g := (mkF m 14 #[.val (.ref t0)] [(.ref t0)])) rfl rfl (hb hby d6_14)
  obtain ⟨T3, X3, e3, st3⟩ := getF X2 hx hZ hown (host := "") (Or.inl (hw _ (List.mem_of_getElem? (i := 34) rfl))) Via.refl e2 F_weight_t0 (g := (mkF m 18 #[.val (.ref t0)] [(.ref t0), (.double x)])) rfl rfl (hb hby d6_18)
  obtain ⟨fs, hr, hrun, hended, hW, hsame⟩ := X3.leave (v := some (.double (FP.ddiv x w))) (fun h => by rw [Bd.returns] at h; cases h)
  refine ⟨_, _, pre0 _ ?_, hrun, hended, _, _, rfl, ?_, ⟨_, rfl⟩, hW, hsame.mono (by decide) (by decide)⟩
  · show Steps p.tables e below (s₁.setTop (mkF m 0 #[.val (.ref t0)] [])) _
    refine XS.aloadN X0.here hx rfl (hb hby d6_0) rfl rfl ?_
    show Steps p.tables e below (s₁.setTop (mkF m 1 #[.val (.ref t0)] [(.ref t0)])) _
    refine st1 _ ?_
    show Steps p.tables e below (T1.setTop (mkF m 4 #[.val (.ref t0)] [(.long (1 : Int64))])) _
    refine XS.lconst X1.here hx rfl (hb hby d6_4) ?_
    show Steps p.tables e below (T1.setTop (mkF m 5 #[.val (.ref t0)] [(.long (0 : Int64)), (.long (1 : Int64))])) _
    refine XS.lcmp X1.here hx rfl (hb hby d6_5) rfl ?_
    show Steps p.tables e below (T1.setTop (mkF m 6 #[.val (.ref t0)] [(.int (lcmpW (1 : Int64) (0 : Int64)))])) _
    rw [show (lcmpW (1 : Int64) (0 : Int64)) = (1 : Int32) by decide]
    show Steps p.tables e below (T1.setTop (mkF m 6 #[.val (.ref t0)] [(.int (1 : Int32))])) _
    refine XS.ifYes X1.here hx rfl (pc0 := 6) (pc' := 13) rfl (hb hby d6_6) rfl ((if0 _ _).trans (feq (by decide : ¬ ((1 : Int32) = (0 : Int32)))).2) (by decide) (by decide) ?_
    show Steps p.tables e below (T1.setTop (mkF m 13 #[.val (.ref t0)] [])) _
    refine XS.aloadN X1.here hx rfl (hb hby d6_13) rfl rfl ?_
    show Steps p.tables e below (T1.setTop (mkF m 14 #[.val (.ref t0)] [(.ref t0)])) _
    refine st2 _ ?_
    show Steps p.tables e below (T2.setTop (mkF m 17 #[.val (.ref t0)] [(.double x)])) _
    refine XS.aloadN X2.here hx rfl (hb hby d6_17) rfl rfl ?_
    show Steps p.tables e below (T2.setTop (mkF m 18 #[.val (.ref t0)] [(.ref t0), (.double x)])) _
    refine st3 _ ?_
    show Steps p.tables e below (T3.setTop (mkF m 21 #[.val (.ref t0)] [(.double w), (.double x)])) _
    refine XS.ddivS X3.here hx rfl (hb hby d6_21) rfl nn21 (v := (FP.ddiv x w)) rfl ?_
    show Steps p.tables e below (T3.setTop (mkF m 22 #[.val (.ref t0)] [(.double (FP.ddiv x w))])) _
    exact retOut X3 hx Bd.returns rfl (Or.inr (Or.inr (Or.inl ⟨rfl, rfl, _, rfl⟩))) (hb hby d6_22) hr
  · show Q_rm6_1 Z t0 w x h0 n0 _ T3.heap _
    rw [e3]
    exact ⟨rfl, N0, rfl⟩
def Q_rm6_2 (Z : State) (t0 : Addr) (w : UInt64) (x : UInt64) (h0 : Heap) (n0 : Nat) (v : Option Value) (h : Heap) (L : List Loc) : Prop := v = some (.double (FP.ddiv x w)) ∧ Fr n0 L ∧ h = h0
set_option maxRecDepth 65536 in
set_option maxHeartbeats 40000000 in
theorem rm6_2 (l : Launch) (Z : State) (a0 : Array Value) (hw : ∀ d ∈ tables_1, d.before a0 Z = true) (ws : List Jvm.Cond) (t0 : Addr) (w : UInt64) (x : UInt64) (h0 : Heap) (n0 : Nat) (Z0 : n0 ≤ h0.size) (F_count_t0 : Fld Z h0 t0 "com/example/arrivals/arrivals/core/SequenceStatistics" "count" "J" (.long (2 : Int64))) (F_sumOptimum_t0 : Fld Z h0 t0 "com/example/arrivals/arrivals/core/SequenceStatistics" "sumOptimum" "D" (.double x)) (F_weight_t0 : Fld Z h0 t0 "com/example/arrivals/arrivals/core/SequenceStatistics" "weight" "D" (.double w)) (nn21 : Jvm.Free.Fl.NoNaN64 (FP.ddiv x w)) :
    MetFree l (⟨"com/example/arrivals/arrivals/core/SequenceStatistics", "meanOptimum", "()D"⟩ : MethodName) (head1 (Jvm.Cond.code (⟨"com/example/arrivals/arrivals/core/SequenceStatistics", "meanOptimum", "()D"⟩ : MethodName) prog_26_method_6_code 1 (some .double) :: ws) ({ frames := 0, cells := 0, slots := 0, locals := 0 } : Room)) (fun a U => a = #[(.ref t0)] ∧ Z.Warmed39 U.vm ∧ U.heap = h0) (fun _ _ _ _ _ => True) (fun _ U o U' => ∃ v L, o = .returned v ∧ Q_rm6_2 Z t0 w x h0 n0 v U'.heap L ∧ FrameEnd U o U' L ({ frames := 0, cells := 0, slots := 0, locals := 0 } : Room).cells ({ frames := 0, cells := 0, slots := 0, locals := 0 } : Room).slots) := by
  refine MetFree.of_bodySF (plainFor_of_name pn_com_example_arrivals_arrivals_core_SequenceStatistics) hisR ?_
  intro p e s m args below meth c s₁ Bd hml0 hP hK
  obtain ⟨rfl, hZ, hh⟩ := hP
  have hx := Bd.exec
  have hby := Bd.bytes
  have hml : c.maxLocals = 1 := hml0
  have hown : s.vm.findClass "com/example/arrivals/arrivals/core/SequenceStatistics" = some m.cls := findClass_of_methodNamed Bd.named
  have hnm := (name_of_methodNamed Bd.named Bd.method).1
  have X0 : Stand p l e ({ frames := 0, cells := 0, slots := 0, locals := 0 } : Room) s m #[(.ref t0)] below meth c s₁ [] 0 0 := Stand.of_body Bd
  have e0 : s₁.heap = h0 := by rw [← hh, Bd.state]; rfl
  have N0 := Fr.nil n0
  have pre0 : ∀ t, Steps p.tables e below (s₁.setTop (mkF m 0 #[.val (.ref t0)] [])) t → Steps p.tables e below (s₁.setTop (entryFrame m #[(.ref t0)] 1)) t := fun t k => castTop (ef_6_R m t0) k
  obtain ⟨T1, X1, e1, st1⟩ := getF X0 hx hZ hown (host := "") (Or.inl (hw _ (List.mem_of_getElem? (i := 27) rfl))) Via.refl e0 F_count_t0 (g := (mkF m 1 #[.val (.ref t0)] [(.ref t0)])) rfl rfl (hb hby d6_1)
  obtain ⟨T2, X2, e2, st2⟩ := getF X1 hx hZ hown (host := "") (Or.inl (hw _ (List.mem_of_getElem? (i := 38) rfl))) Via.refl e1 F_sumOptimum_t0 (g := (mkF m 14 #[.val (.ref t0)] [(.ref t0)])) rfl rfl (hb hby d6_14)
  obtain ⟨T3, X3, e3, st3⟩ := getF X2 hx hZ hown (host := "") (Or.inl (hw _ (List.mem_of_getElem? (i := 34) rfl))) Via.refl e2 F_weight_t0 (g := (mkF m 18 #[.val (.ref t0)] [(.ref t0), (.double x)])) rfl rfl (hb hby d6_18)
  obtain ⟨fs, hr, hrun, hended, hW, hsame⟩ := X3.leave (v := some (.double (FP.ddiv x w))) (fun h => by rw [Bd.returns] at h; cases h)
  refine ⟨_, _, pre0 _ ?_, hrun, hended, _, _, rfl, ?_, ⟨_, rfl⟩, hW, hsame.mono (by decide) (by decide)⟩
  · show Steps p.tables e below (s₁.setTop (mkF m 0 #[.val (.ref t0)] [])) _
    refine XS.aloadN X0.here hx rfl (hb hby d6_0) rfl rfl ?_
    show Steps p.tables e below (s₁.setTop (mkF m 1 #[.val (.ref t0)] [(.ref t0)])) _
    refine st1 _ ?_
    show Steps p.tables e below (T1.setTop (mkF m 4 #[.val (.ref t0)] [(.long (2 : Int64))])) _
    refine XS.lconst X1.here hx rfl (hb hby d6_4) ?_
    show Steps p.tables e below (T1.setTop (mkF m 5 #[.val (.ref t0)] [(.long (0 : Int64)), (.long (2 : Int64))])) _
    refine XS.lcmp X1.here hx rfl (hb hby d6_5) rfl ?_
    show Steps p.tables e below (T1.setTop (mkF m 6 #[.val (.ref t0)] [(.int (lcmpW (2 : Int64) (0 : Int64)))])) _
    rw [show (lcmpW (2 : Int64) (0 : Int64)) = (1 : Int32) by decide]
    show Steps p.tables e below (T1.setTop (mkF m 6 #[.val (.ref t0)] [(.int (1 : Int32))])) _
    refine XS.ifYes X1.here hx rfl (pc0 := 6) (pc' := 13) rfl (hb hby d6_6) rfl ((if0 _ _).trans (feq (by decide : ¬ ((1 : Int32) = (0 : Int32)))).2) (by decide) (by decide) ?_
    show Steps p.tables e below (T1.setTop (mkF m 13 #[.val (.ref t0)] [])) _
    refine XS.aloadN X1.here hx rfl (hb hby d6_13) rfl rfl ?_
    show Steps p.tables e below (T1.setTop (mkF m 14 #[.val (.ref t0)] [(.ref t0)])) _
    refine st2 _ ?_
    show Steps p.tables e below (T2.setTop (mkF m 17 #[.val (.ref t0)] [(.double x)])) _
    refine XS.aloadN X2.here hx rfl (hb hby d6_17) rfl rfl ?_
    show Steps p.tables e below (T2.setTop (mkF m 18 #[.val (.ref t0)] [(.ref t0), (.double x)])) _
    refine st3 _ ?_
    show Steps p.tables e below (T3.setTop (mkF m 21 #[.val (.ref t0)] [(.double w), (.double x)])) _
    refine XS.ddivS X3.here hx rfl (hb hby d6_21) rfl nn21 (v := (FP.ddiv x w)) rfl ?_
    show Steps p.tables e below (T3.setTop (mkF m 22 #[.val (.ref t0)] [(.double (FP.ddiv x w))])) _
    exact retOut X3 hx Bd.returns rfl (Or.inr (Or.inr (Or.inl ⟨rfl, rfl, _, rfl⟩))) (hb hby d6_22) hr
  · show Q_rm6_2 Z t0 w x h0 n0 _ T3.heap _
    rw [e3]
    exact ⟨rfl, N0, rfl⟩
theorem d4_0 : decode prog_26_method_2_code 0 = .ok (.dload_n 3, 1) := by decide +kernel
theorem d4_1 : decode prog_26_method_2_code 1 = .ok (.aload_n 0, 1) := by decide +kernel
theorem d4_2 : decode prog_26_method_2_code 2 = .ok (.invokevirtual 7, 3) := by decide +kernel
theorem pd_0 : parseMethodDescriptor "()D" = some ⟨[], some .double⟩ := by decide +kernel
theorem d4_5 : decode prog_26_method_2_code 5 = .ok (.dsub, 1) := by decide +kernel
theorem d4_6 : decode prog_26_method_2_code 6 = .ok (.dstore 7, 2) := by decide +kernel
theorem d4_8 : decode prog_26_method_2_code 8 = .ok (.lload 5, 2) := by decide +kernel
theorem d4_10 : decode prog_26_method_2_code 10 = .ok (.l2d, 1) := by decide +kernel
theorem d4_11 : decode prog_26_method_2_code 11 = .ok (.aload_n 0, 1) := by decide +kernel
theorem d4_12 : decode prog_26_method_2_code 12 = .ok (.invokevirtual 13, 3) := by decide +kernel
theorem d4_15 : decode prog_26_method_2_code 15 = .ok (.dsub, 1) := by decide +kernel
theorem d4_16 : decode prog_26_method_2_code 16 = .ok (.dstore 9, 2) := by decide +kernel
theorem d4_18 : decode prog_26_method_2_code 18 = .ok (.aload_n 0, 1) := by decide +kernel
theorem d4_19 : decode prog_26_method_2_code 19 = .ok (.dup, 1) := by decide +kernel
theorem d4_20 : decode prog_26_method_2_code 20 = .ok (.getfield 16, 3) := by decide +kernel
theorem d4_23 : decode prog_26_method_2_code 23 = .ok (.lconst 1, 1) := by decide +kernel
theorem d4_24 : decode prog_26_method_2_code 24 = .ok (.ladd, 1) := by decide +kernel
theorem d4_25 : decode prog_26_method_2_code 25 = .ok (.putfield 16, 3) := by decide +kernel
theorem so_SequenceStatistics_weight_count {Z : State} {a0 : Array Value} (hw : ∀ d ∈ tables_1, d.before a0 Z = true) : Jvm.RoadKit.slotOf Z "com/example/arrivals/arrivals/core/SequenceStatistics" "weight" "D" ≠ Jvm.RoadKit.slotOf Z "com/example/arrivals/arrivals/core/SequenceStatistics" "count" "J" := slot_ne (Or.inl (hw _ (List.mem_of_getElem? (i := 35) rfl))) (Or.inl (hw _ (List.mem_of_getElem? (i := 28) rfl))) (by decide) (t := .double) (t' := .long) (by decide) (by decide)
theorem so_SequenceStatistics_sumOnline_count {Z : State} {a0 : Array Value} (hw : ∀ d ∈ tables_1, d.before a0 Z = true) : Jvm.RoadKit.slotOf Z "com/example/arrivals/arrivals/core/SequenceStatistics" "sumOnline" "D" ≠ Jvm.RoadKit.slotOf Z "com/example/arrivals/arrivals/core/SequenceStatistics" "count" "J" := slot_ne (Or.inl (hw _ (List.mem_of_getElem? (i := 37) rfl))) (Or.inl (hw _ (List.mem_of_getElem? (i := 28) rfl))) (by decide) (t := .double) (t' := .long) (by decide) (by decide)
theorem so_SequenceStatistics_sumOptimum_count {Z : State} {a0 : Array Value} (hw : ∀ d ∈ tables_1, d.before a0 Z = true) : Jvm.RoadKit.slotOf Z "com/example/arrivals/arrivals/core/SequenceStatistics" "sumOptimum" "D" ≠ Jvm.RoadKit.slotOf Z "com/example/arrivals/arrivals/core/SequenceStatistics" "count" "J" := slot_ne (Or.inl (hw _ (List.mem_of_getElem? (i := 39) rfl))) (Or.inl (hw _ (List.mem_of_getElem? (i := 28) rfl))) (by decide) (t := .double) (t' := .long) (by decide) (by decide)
theorem so_SequenceStatistics_comomentOnline_count {Z : State} {a0 : Array Value} (hw : ∀ d ∈ tables_1, d.before a0 Z = true) : Jvm.RoadKit.slotOf Z "com/example/arrivals/arrivals/core/SequenceStatistics" "comomentOnline" "D" ≠ Jvm.RoadKit.slotOf Z "com/example/arrivals/arrivals/core/SequenceStatistics" "count" "J" := slot_ne (Or.inl (hw _ (List.mem_of_getElem? (i := 41) rfl))) (Or.inl (hw _ (List.mem_of_getElem? (i := 28) rfl))) (by decide) (t := .double) (t' := .long) (by decide) (by decide)
theorem so_SequenceStatistics_comomentOptimum_count {Z : State} {a0 : Array Value} (hw : ∀ d ∈ tables_1, d.before a0 Z = true) : Jvm.RoadKit.slotOf Z "com/example/arrivals/arrivals/core/SequenceStatistics" "comomentOptimum" "D" ≠ Jvm.RoadKit.slotOf Z "com/example/arrivals/arrivals/core/SequenceStatistics" "count" "J" := slot_ne (Or.inl (hw _ (List.mem_of_getElem? (i := 43) rfl))) (Or.inl (hw _ (List.mem_of_getElem? (i := 28) rfl))) (by decide) (t := .double) (t' := .long) (by decide) (by decide)
theorem so_SequenceStatistics_comomentBoth_count {Z : State} {a0 : Array Value} (hw : ∀ d ∈ tables_1, d.before a0 Z = true) : Jvm.RoadKit.slotOf Z "com/example/arrivals/arrivals/core/SequenceStatistics" "comomentBoth" "D" ≠ Jvm.RoadKit.slotOf Z "com/example/arrivals/arrivals/core/SequenceStatistics" "count" "J" := slot_ne (Or.inl (hw _ (List.mem_of_getElem? (i := 45) rfl))) (Or.inl (hw _ (List.mem_of_getElem? (i := 28) rfl))) (by decide) (t := .double) (t' := .long) (by decide) (by decide)
theorem so_SequenceStatistics_positiveWeight_count {Z : State} {a0 : Array Value} (hw : ∀ d ∈ tables_1, d.before a0 Z = true) : Jvm.RoadKit.slotOf Z "com/example/arrivals/arrivals/core/SequenceStatistics" "positiveWeight" "D" ≠ Jvm.RoadKit.slotOf Z "com/example/arrivals/arrivals/core/SequenceStatistics" "count" "J" := slot_ne (Or.inl (hw _ (List.mem_of_getElem? (i := 15) rfl))) (Or.inl (hw _ (List.mem_of_getElem? (i := 28) rfl))) (by decide) (t := .double) (t' := .long) (by decide) (by decide)
theorem so_SequenceStatistics_weightedRatios_count {Z : State} {a0 : Array Value} (hw : ∀ d ∈ tables_1, d.before a0 Z = true) : Jvm.RoadKit.slotOf Z "com/example/arrivals/arrivals/core/SequenceStatistics" "weightedRatios" "D" ≠ Jvm.RoadKit.slotOf Z "com/example/arrivals/arrivals/core/SequenceStatistics" "count" "J" := slot_ne (Or.inl (hw _ (List.mem_of_getElem? (i := 49) rfl))) (Or.inl (hw _ (List.mem_of_getElem? (i := 28) rfl))) (by decide) (t := .double) (t' := .long) (by decide) (by decide)
theorem so_SequenceStatistics_zeroWeight_count {Z : State} {a0 : Array Value} (hw : ∀ d ∈ tables_1, d.before a0 Z = true) : Jvm.RoadKit.slotOf Z "com/example/arrivals/arrivals/core/SequenceStatistics" "zeroWeight" "D" ≠ Jvm.RoadKit.slotOf Z "com/example/arrivals/arrivals/core/SequenceStatistics" "count" "J" := slot_ne (Or.inl (hw _ (List.mem_of_getElem? (i := 47) rfl))) (Or.inl (hw _ (List.mem_of_getElem? (i := 28) rfl))) (by decide) (t := .double) (t' := .long) (by decide) (by decide)
theorem d4_28 : decode prog_26_method_2_code 28 = .ok (.aload_n 0, 1) := by decide +kernel
theorem d4_29 : decode prog_26_method_2_code 29 = .ok (.dup, 1) := by decide +kernel
theorem d4_30 : decode prog_26_method_2_code 30 = .ok (.getfield 20, 3) := by decide +kernel
theorem d4_33 : decode prog_26_method_2_code 33 = .ok (.dload_n 1, 1) := by decide +kernel
theorem d4_34 : decode prog_26_method_2_code 34 = .ok (.dadd, 1) := by decide +kernel
theorem d4_35 : decode prog_26_method_2_code 35 = .ok (.putfield 20, 3) := by decide +kernel
theorem so_SequenceStatistics_count_weight {Z : State} {a0 : Array Value} (hw : ∀ d ∈ tables_1, d.before a0 Z = true) : Jvm.RoadKit.slotOf Z "com/example/arrivals/arrivals/core/SequenceStatistics" "count" "J" ≠ Jvm.RoadKit.slotOf Z "com/example/arrivals/arrivals/core/SequenceStatistics" "weight" "D" := slot_ne (Or.inl (hw _ (List.mem_of_getElem? (i := 28) rfl))) (Or.inl (hw _ (List.mem_of_getElem? (i := 35) rfl))) (by decide) (t := .long) (t' := .double) (by decide) (by decide)
theorem so_SequenceStatistics_sumOnline_weight {Z : State} {a0 : Array Value} (hw : ∀ d ∈ tables_1, d.before a0 Z = true) : Jvm.RoadKit.slotOf Z "com/example/arrivals/arrivals/core/SequenceStatistics" "sumOnline" "D" ≠ Jvm.RoadKit.slotOf Z "com/example/arrivals/arrivals/core/SequenceStatistics" "weight" "D" := slot_ne (Or.inl (hw _ (List.mem_of_getElem? (i := 37) rfl))) (Or.inl (hw _ (List.mem_of_getElem? (i := 35) rfl))) (by decide) (t := .double) (t' := .double) (by decide) (by decide)
theorem so_SequenceStatistics_sumOptimum_weight {Z : State} {a0 : Array Value} (hw : ∀ d ∈ tables_1, d.before a0 Z = true) : Jvm.RoadKit.slotOf Z "com/example/arrivals/arrivals/core/SequenceStatistics" "sumOptimum" "D" ≠ Jvm.RoadKit.slotOf Z "com/example/arrivals/arrivals/core/SequenceStatistics" "weight" "D" := slot_ne (Or.inl (hw _ (List.mem_of_getElem? (i := 39) rfl))) (Or.inl (hw _ (List.mem_of_getElem? (i := 35) rfl))) (by decide) (t := .double) (t' := .double) (by decide) (by decide)
theorem so_SequenceStatistics_comomentOnline_weight {Z : State} {a0 : Array Value} (hw : ∀ d ∈ tables_1, d.before a0 Z = true) : Jvm.RoadKit.slotOf Z "com/example/arrivals/arrivals/core/SequenceStatistics" "comomentOnline" "D" ≠ Jvm.RoadKit.slotOf Z "com/example/arrivals/arrivals/core/SequenceStatistics" "weight" "D" := slot_ne (Or.inl (hw _ (List.mem_of_getElem? (i := 41) rfl))) (Or.inl (hw _ (List.mem_of_getElem? (i := 35) rfl))) (by decide) (t := .double) (t' := .double) (by decide) (by decide)
theorem so_SequenceStatistics_comomentOptimum_weight {Z : State} {a0 : Array Value} (hw : ∀ d ∈ tables_1, d.before a0 Z = true) : Jvm.RoadKit.slotOf Z "com/example/arrivals/arrivals/core/SequenceStatistics" "comomentOptimum" "D" ≠ Jvm.RoadKit.slotOf Z "com/example/arrivals/arrivals/core/SequenceStatistics" "weight" "D" := slot_ne (Or.inl (hw _ (List.mem_of_getElem? (i := 43) rfl))) (Or.inl (hw _ (List.mem_of_getElem? (i := 35) rfl))) (by decide) (t := .double) (t' := .double) (by decide) (by decide)
theorem so_SequenceStatistics_comomentBoth_weight {Z : State} {a0 : Array Value} (hw : ∀ d ∈ tables_1, d.before a0 Z = true) : Jvm.RoadKit.slotOf Z "com/example/arrivals/arrivals/core/SequenceStatistics" "comomentBoth" "D" ≠ Jvm.RoadKit.slotOf Z "com/example/arrivals/arrivals/core/SequenceStatistics" "weight" "D" := slot_ne (Or.inl (hw _ (List.mem_of_getElem? (i := 45) rfl))) (Or.inl (hw _ (List.mem_of_getElem? (i := 35) rfl))) (by decide) (t := .double) (t' := .double) (by decide) (by decide)
theorem so_SequenceStatistics_positiveWeight_weight {Z : State} {a0 : Array Value} (hw : ∀ d ∈ tables_1, d.before a0 Z = true) : Jvm.RoadKit.slotOf Z "com/example/arrivals/arrivals/core/SequenceStatistics" "positiveWeight" "D" ≠ Jvm.RoadKit.slotOf Z "com/example/arrivals/arrivals/core/SequenceStatistics" "weight" "D" := slot_ne (Or.inl (hw _ (List.mem_of_getElem? (i := 15) rfl))) (Or.inl (hw _ (List.mem_of_getElem? (i := 35) rfl))) (by decide) (t := .double) (t' := .double) (by decide) (by decide)
theorem so_SequenceStatistics_weightedRatios_weight {Z : State} {a0 : Array Value} (hw : ∀ d ∈ tables_1, d.before a0 Z = true) : Jvm.RoadKit.slotOf Z "com/example/arrivals/arrivals/core/SequenceStatistics" "weightedRatios" "D" ≠ Jvm.RoadKit.slotOf Z "com/example/arrivals/arrivals/core/SequenceStatistics" "weight" "D" := slot_ne (Or.inl (hw _ (List.mem_of_getElem? (i := 49) rfl))) (Or.inl (hw _ (List.mem_of_getElem? (i := 35) rfl))) (by decide) (t := .double) (t' := .double) (by decide) (by decide)
theorem so_SequenceStatistics_zeroWeight_weight {Z : State} {a0 : Array Value} (hw : ∀ d ∈ tables_1, d.before a0 Z = true) : Jvm.RoadKit.slotOf Z "com/example/arrivals/arrivals/core/SequenceStatistics" "zeroWeight" "D" ≠ Jvm.RoadKit.slotOf Z "com/example/arrivals/arrivals/core/SequenceStatistics" "weight" "D" := slot_ne (Or.inl (hw _ (List.mem_of_getElem? (i := 47) rfl))) (Or.inl (hw _ (List.mem_of_getElem? (i := 35) rfl))) (by decide) (t := .double) (t' := .double) (by decide) (by decide)
theorem d4_38 : decode prog_26_method_2_code 38 = .ok (.aload_n 0, 1) := by decide +kernel
theorem d4_39 : decode prog_26_method_2_code 39 = .ok (.dup, 1) := by decide +kernel
theorem d4_40 : decode prog_26_method_2_code 40 = .ok (.getfield 24, 3) := by decide +kernel
theorem d4_43 : decode prog_26_method_2_code 43 = .ok (.dload_n 1, 1) := by decide +kernel
theorem d4_44 : decode prog_26_method_2_code 44 = .ok (.dload_n 3, 1) := by decide +kernel
theorem d4_45 : decode prog_26_method_2_code 45 = .ok (.dmul, 1) := by decide +kernel
theorem d4_46 : decode prog_26_method_2_code 46 = .ok (.dadd, 1) := by decide +kernel
theorem d4_47 : decode prog_26_method_2_code 47 = .ok (.putfield 24, 3) := by decide +kernel
theorem so_SequenceStatistics_count_sumOnline {Z : State} {a0 : Array Value} (hw : ∀ d ∈ tables_1, d.before a0 Z = true) : Jvm.RoadKit.slotOf Z "com/example/arrivals/arrivals/core/SequenceStatistics" "count" "J" ≠ Jvm.RoadKit.slotOf Z "com/example/arrivals/arrivals/core/SequenceStatistics" "sumOnline" "D" := slot_ne (Or.inl (hw _ (List.mem_of_getElem? (i := 28) rfl))) (Or.inl (hw _ (List.mem_of_getElem? (i := 37) rfl))) (by decide) (t := .long) (t' := .double) (by decide) (by decide)
theorem so_SequenceStatistics_weight_sumOnline {Z : State} {a0 : Array Value} (hw : ∀ d ∈ tables_1, d.before a0 Z = true) : Jvm.RoadKit.slotOf Z "com/example/arrivals/arrivals/core/SequenceStatistics" "weight" "D" ≠ Jvm.RoadKit.slotOf Z "com/example/arrivals/arrivals/core/SequenceStatistics" "sumOnline" "D" := slot_ne (Or.inl (hw _ (List.mem_of_getElem? (i := 35) rfl))) (Or.inl (hw _ (List.mem_of_getElem? (i := 37) rfl))) (by decide) (t := .double) (t' := .double) (by decide) (by decide)
theorem so_SequenceStatistics_sumOptimum_sumOnline {Z : State} {a0 : Array Value} (hw : ∀ d ∈ tables_1, d.before a0 Z = true) : Jvm.RoadKit.slotOf Z "com/example/arrivals/arrivals/core/SequenceStatistics" "sumOptimum" "D" ≠ Jvm.RoadKit.slotOf Z "com/example/arrivals/arrivals/core/SequenceStatistics" "sumOnline" "D" := slot_ne (Or.inl (hw _ (List.mem_of_getElem? (i := 39) rfl))) (Or.inl (hw _ (List.mem_of_getElem? (i := 37) rfl))) (by decide) (t := .double) (t' := .double) (by decide) (by decide)
theorem so_SequenceStatistics_comomentOnline_sumOnline {Z : State} {a0 : Array Value} (hw : ∀ d ∈ tables_1, d.before a0 Z = true) : Jvm.RoadKit.slotOf Z "com/example/arrivals/arrivals/core/SequenceStatistics" "comomentOnline" "D" ≠ Jvm.RoadKit.slotOf Z "com/example/arrivals/arrivals/core/SequenceStatistics" "sumOnline" "D" := slot_ne (Or.inl (hw _ (List.mem_of_getElem? (i := 41) rfl))) (Or.inl (hw _ (List.mem_of_getElem? (i := 37) rfl))) (by decide) (t := .double) (t' := .double) (by decide) (by decide)
theorem so_SequenceStatistics_comomentOptimum_sumOnline {Z : State} {a0 : Array Value} (hw : ∀ d ∈ tables_1, d.before a0 Z = true) : Jvm.RoadKit.slotOf Z "com/example/arrivals/arrivals/core/SequenceStatistics" "comomentOptimum" "D" ≠ Jvm.RoadKit.slotOf Z "com/example/arrivals/arrivals/core/SequenceStatistics" "sumOnline" "D" := slot_ne (Or.inl (hw _ (List.mem_of_getElem? (i := 43) rfl))) (Or.inl (hw _ (List.mem_of_getElem? (i := 37) rfl))) (by decide) (t := .double) (t' := .double) (by decide) (by decide)
theorem so_SequenceStatistics_comomentBoth_sumOnline {Z : State} {a0 : Array Value} (hw : ∀ d ∈ tables_1, d.before a0 Z = true) : Jvm.RoadKit.slotOf Z "com/example/arrivals/arrivals/core/SequenceStatistics" "comomentBoth" "D" ≠ Jvm.RoadKit.slotOf Z "com/example/arrivals/arrivals/core/SequenceStatistics" "sumOnline" "D" := slot_ne (Or.inl (hw _ (List.mem_of_getElem? (i := 45) rfl))) (Or.inl (hw _ (List.mem_of_getElem? (i := 37) rfl))) (by decide) (t := .double) (t' := .double) (by decide) (by decide)
theorem so_SequenceStatistics_positiveWeight_sumOnline {Z : State} {a0 : Array Value} (hw : ∀ d ∈ tables_1, d.before a0 Z = true) : Jvm.RoadKit.slotOf Z "com/example/arrivals/arrivals/core/SequenceStatistics" "positiveWeight" "D" ≠ Jvm.RoadKit.slotOf Z "com/example/arrivals/arrivals/core/SequenceStatistics" "sumOnline" "D" := slot_ne (Or.inl (hw _ (List.mem_of_getElem? (i := 15) rfl))) (Or.inl (hw _ (List.mem_of_getElem? (i := 37) rfl))) (by decide) (t := .double) (t' := .double) (by decide) (by decide)
theorem so_SequenceStatistics_weightedRatios_sumOnline {Z : State} {a0 : Array Value} (hw : ∀ d ∈ tables_1, d.before a0 Z = true) : Jvm.RoadKit.slotOf Z "com/example/arrivals/arrivals/core/SequenceStatistics" "weightedRatios" "D" ≠ Jvm.RoadKit.slotOf Z "com/example/arrivals/arrivals/core/SequenceStatistics" "sumOnline" "D" := slot_ne (Or.inl (hw _ (List.mem_of_getElem? (i := 49) rfl))) (Or.inl (hw _ (List.mem_of_getElem? (i := 37) rfl))) (by decide) (t := .double) (t' := .double) (by decide) (by decide)
theorem so_SequenceStatistics_zeroWeight_sumOnline {Z : State} {a0 : Array Value} (hw : ∀ d ∈ tables_1, d.before a0 Z = true) : Jvm.RoadKit.slotOf Z "com/example/arrivals/arrivals/core/SequenceStatistics" "zeroWeight" "D" ≠ Jvm.RoadKit.slotOf Z "com/example/arrivals/arrivals/core/SequenceStatistics" "sumOnline" "D" := slot_ne (Or.inl (hw _ (List.mem_of_getElem? (i := 47) rfl))) (Or.inl (hw _ (List.mem_of_getElem? (i := 37) rfl))) (by decide) (t := .double) (t' := .double) (by decide) (by decide)
theorem d4_50 : decode prog_26_method_2_code 50 = .ok (.aload_n 0, 1) := by decide +kernel
theorem d4_51 : decode prog_26_method_2_code 51 = .ok (.dup, 1) := by decide +kernel
theorem d4_52 : decode prog_26_method_2_code 52 = .ok (.getfield 27, 3) := by decide +kernel
theorem d4_55 : decode prog_26_method_2_code 55 = .ok (.dload_n 1, 1) := by decide +kernel
theorem d4_56 : decode prog_26_method_2_code 56 = .ok (.lload 5, 2) := by decide +kernel
theorem d4_58 : decode prog_26_method_2_code 58 = .ok (.l2d, 1) := by decide +kernel
theorem d4_59 : decode prog_26_method_2_code 59 = .ok (.dmul, 1) := by decide +kernel
theorem d4_60 : decode prog_26_method_2_code 60 = .ok (.dadd, 1) := by decide +kernel
theorem d4_61 : decode prog_26_method_2_code 61 = .ok (.putfield 27, 3) := by decide +kernel
theorem so_SequenceStatistics_count_sumOptimum {Z : State} {a0 : Array Value} (hw : ∀ d ∈ tables_1, d.before a0 Z = true) : Jvm.RoadKit.slotOf Z "com/example/arrivals/arrivals/core/SequenceStatistics" "count" "J" ≠ Jvm.RoadKit.slotOf Z "com/example/arrivals/arrivals/core/SequenceStatistics" "sumOptimum" "D" := slot_ne (Or.inl (hw _ (List.mem_of_getElem? (i := 28) rfl))) (Or.inl (hw _ (List.mem_of_getElem? (i := 39) rfl))) (by decide) (t := .long) (t' := .double) (by decide) (by decide)
theorem so_SequenceStatistics_weight_sumOptimum {Z : State} {a0 : Array Value} (hw : ∀ d ∈ tables_1, d.before a0 Z = true) : Jvm.RoadKit.slotOf Z "com/example/arrivals/arrivals/core/SequenceStatistics" "weight" "D" ≠ Jvm.RoadKit.slotOf Z "com/example/arrivals/arrivals/core/SequenceStatistics" "sumOptimum" "D" := slot_ne (Or.inl (hw _ (List.mem_of_getElem? (i := 35) rfl))) (Or.inl (hw _ (List.mem_of_getElem? (i := 39) rfl))) (by decide) (t := .double) (t' := .double) (by decide) (by decide)
theorem so_SequenceStatistics_sumOnline_sumOptimum {Z : State} {a0 : Array Value} (hw : ∀ d ∈ tables_1, d.before a0 Z = true) : Jvm.RoadKit.slotOf Z "com/example/arrivals/arrivals/core/SequenceStatistics" "sumOnline" "D" ≠ Jvm.RoadKit.slotOf Z "com/example/arrivals/arrivals/core/SequenceStatistics" "sumOptimum" "D" := slot_ne (Or.inl (hw _ (List.mem_of_getElem? (i := 37) rfl))) (Or.inl (hw _ (List.mem_of_getElem? (i := 39) rfl))) (by decide) (t := .double) (t' := .double) (by decide) (by decide)
theorem so_SequenceStatistics_comomentOnline_sumOptimum {Z : State} {a0 : Array Value} (hw : ∀ d ∈ tables_1, d.before a0 Z = true) : Jvm.RoadKit.slotOf Z "com/example/arrivals/arrivals/core/SequenceStatistics" "comomentOnline" "D" ≠ Jvm.RoadKit.slotOf Z "com/example/arrivals/arrivals/core/SequenceStatistics" "sumOptimum" "D" := slot_ne (Or.inl (hw _ (List.mem_of_getElem? (i := 41) rfl))) (Or.inl (hw _ (List.mem_of_getElem? (i := 39) rfl))) (by decide) (t := .double) (t' := .double) (by decide) (by decide)
theorem so_SequenceStatistics_comomentOptimum_sumOptimum {Z : State} {a0 : Array Value} (hw : ∀ d ∈ tables_1, d.before a0 Z = true) : Jvm.RoadKit.slotOf Z "com/example/arrivals/arrivals/core/SequenceStatistics" "comomentOptimum" "D" ≠ Jvm.RoadKit.slotOf Z "com/example/arrivals/arrivals/core/SequenceStatistics" "sumOptimum" "D" := slot_ne (Or.inl (hw _ (List.mem_of_getElem? (i := 43) rfl))) (Or.inl (hw _ (List.mem_of_getElem? (i := 39) rfl))) (by decide) (t := .double) (t' := .double) (by decide) (by decide)
theorem so_SequenceStatistics_comomentBoth_sumOptimum {Z : State} {a0 : Array Value} (hw : ∀ d ∈ tables_1, d.before a0 Z = true) : Jvm.RoadKit.slotOf Z "com/example/arrivals/arrivals/core/SequenceStatistics" "comomentBoth" "D" ≠ Jvm.RoadKit.slotOf Z "com/example/arrivals/arrivals/core/SequenceStatistics" "sumOptimum" "D" := slot_ne (Or.inl (hw _ (List.mem_of_getElem? (i := 45) rfl))) (Or.inl (hw _ (List.mem_of_getElem? (i := 39) rfl))) (by decide) (t := .double) (t' := .double) (by decide) (by decide)
theorem so_SequenceStatistics_positiveWeight_sumOptimum {Z : State} {a0 : Array Value} (hw : ∀ d ∈ tables_1, d.before a0 Z = true) : Jvm.RoadKit.slotOf Z "com/example/arrivals/arrivals/core/SequenceStatistics" "positiveWeight" "D" ≠ Jvm.RoadKit.slotOf Z "com/example/arrivals/arrivals/core/SequenceStatistics" "sumOptimum" "D" := slot_ne (Or.inl (hw _ (List.mem_of_getElem? (i := 15) rfl))) (Or.inl (hw _ (List.mem_of_getElem? (i := 39) rfl))) (by decide) (t := .double) (t' := .double) (by decide) (by decide)
theorem so_SequenceStatistics_weightedRatios_sumOptimum {Z : State} {a0 : Array Value} (hw : ∀ d ∈ tables_1, d.before a0 Z = true) : Jvm.RoadKit.slotOf Z "com/example/arrivals/arrivals/core/SequenceStatistics" "weightedRatios" "D" ≠ Jvm.RoadKit.slotOf Z "com/example/arrivals/arrivals/core/SequenceStatistics" "sumOptimum" "D" := slot_ne (Or.inl (hw _ (List.mem_of_getElem? (i := 49) rfl))) (Or.inl (hw _ (List.mem_of_getElem? (i := 39) rfl))) (by decide) (t := .double) (t' := .double) (by decide) (by decide)
theorem so_SequenceStatistics_zeroWeight_sumOptimum {Z : State} {a0 : Array Value} (hw : ∀ d ∈ tables_1, d.before a0 Z = true) : Jvm.RoadKit.slotOf Z "com/example/arrivals/arrivals/core/SequenceStatistics" "zeroWeight" "D" ≠ Jvm.RoadKit.slotOf Z "com/example/arrivals/arrivals/core/SequenceStatistics" "sumOptimum" "D" := slot_ne (Or.inl (hw _ (List.mem_of_getElem? (i := 47) rfl))) (Or.inl (hw _ (List.mem_of_getElem? (i := 39) rfl))) (by decide) (t := .double) (t' := .double) (by decide) (by decide)
theorem d4_64 : decode prog_26_method_2_code 64 = .ok (.dload_n 3, 1) := by decide +kernel
theorem d4_65 : decode prog_26_method_2_code 65 = .ok (.aload_n 0, 1) := by decide +kernel
theorem d4_66 : decode prog_26_method_2_code 66 = .ok (.invokevirtual 7, 3) := by decide +kernel
theorem d4_69 : decode prog_26_method_2_code 69 = .ok (.dsub, 1) := by decide +kernel
theorem d4_70 : decode prog_26_method_2_code 70 = .ok (.dstore 11, 2) := by decide +kernel
theorem d4_72 : decode prog_26_method_2_code 72 = .ok (.lload 5, 2) := by decide +kernel
theorem d4_74 : decode prog_26_method_2_code 74 = .ok (.l2d, 1) := by decide +kernel
theorem d4_75 : decode prog_26_method_2_code 75 = .ok (.aload_n 0, 1) := by decide +kernel
theorem d4_76 : decode prog_26_method_2_code 76 = .ok (.invokevirtual 13, 3) := by decide +kernel
theorem d4_79 : decode prog_26_method_2_code 79 = .ok (.dsub, 1) := by decide +kernel
theorem d4_80 : decode prog_26_method_2_code 80 = .ok (.dstore 13, 2) := by decide +kernel
theorem d4_82 : decode prog_26_method_2_code 82 = .ok (.aload_n 0, 1) := by decide +kernel
theorem d4_83 : decode prog_26_method_2_code 83 = .ok (.dup, 1) := by decide +kernel
theorem d4_84 : decode prog_26_method_2_code 84 = .ok (.getfield 30, 3) := by decide +kernel
theorem d4_87 : decode prog_26_method_2_code 87 = .ok (.dload_n 1, 1) := by decide +kernel
theorem d4_88 : decode prog_26_method_2_code 88 = .ok (.dload 7, 2) := by decide +kernel
theorem d4_90 : decode prog_26_method_2_code 90 = .ok (.dmul, 1) := by decide +kernel
theorem d4_91 : decode prog_26_method_2_code 91 = .ok (.dload 11, 2) := by decide +kernel
theorem d4_93 : decode prog_26_method_2_code 93 = .ok (.dmul, 1) := by decide +kernel
theorem d4_94 : decode prog_26_method_2_code 94 = .ok (.dadd, 1) := by decide +kernel
theorem d4_95 : decode prog_26_method_2_code 95 = .ok (.putfield 30, 3) := by decide +kernel
theorem so_SequenceStatistics_count_comomentOnline {Z : State} {a0 : Array Value} (hw : ∀ d ∈ tables_1, d.before a0 Z = true) : Jvm.RoadKit.slotOf Z "com/example/arrivals/arrivals/core/SequenceStatistics" "count" "J" ≠ Jvm.RoadKit.slotOf Z "com/example/arrivals/arrivals/core/SequenceStatistics" "comomentOnline" "D" := slot_ne (Or.inl (hw _ (List.mem_of_getElem? (i := 28) rfl))) (Or.inl (hw _ (List.mem_of_getElem? (i := 41) rfl))) (by decide) (t := .long) (t' := .double) (by decide) (by decide)
theorem so_SequenceStatistics_weight_comomentOnline {Z : State} {a0 : Array Value} (hw : ∀ d ∈ tables_1, d.before a0 Z = true) : Jvm.RoadKit.slotOf Z "com/example/arrivals/arrivals/core/SequenceStatistics" "weight" "D" ≠ Jvm.RoadKit.slotOf Z "com/example/arrivals/arrivals/core/SequenceStatistics" "comomentOnline" "D" := slot_ne (Or.inl (hw _ (List.mem_of_getElem? (i := 35) rfl))) (Or.inl (hw _ (List.mem_of_getElem? (i := 41) rfl))) (by decide) (t := .double) (t' := .double) (by decide) (by decide)
theorem so_SequenceStatistics_sumOnline_comomentOnline {Z : State} {a0 : Array Value} (hw : ∀ d ∈ tables_1, d.before a0 Z = true) : Jvm.RoadKit.slotOf Z "com/example/arrivals/arrivals/core/SequenceStatistics" "sumOnline" "D" ≠ Jvm.RoadKit.slotOf Z "com/example/arrivals/arrivals/core/SequenceStatistics" "comomentOnline" "D" := slot_ne (Or.inl (hw _ (List.mem_of_getElem? (i := 37) rfl))) (Or.inl (hw _ (List.mem_of_getElem? (i := 41) rfl))) (by decide) (t := .double) (t' := .double) (by decide) (by decide)
theorem so_SequenceStatistics_sumOptimum_comomentOnline {Z : State} {a0 : Array Value} (hw : ∀ d ∈ tables_1, d.before a0 Z = true) : Jvm.RoadKit.slotOf Z "com/example/arrivals/arrivals/core/SequenceStatistics" "sumOptimum" "D" ≠ Jvm.RoadKit.slotOf Z "com/example/arrivals/arrivals/core/SequenceStatistics" "comomentOnline" "D" := slot_ne (Or.inl (hw _ (List.mem_of_getElem? (i := 39) rfl))) (Or.inl (hw _ (List.mem_of_getElem? (i := 41) rfl))) (by decide) (t := .double) (t' := .double) (by decide) (by decide)
theorem so_SequenceStatistics_comomentOptimum_comomentOnline {Z : State} {a0 : Array Value} (hw : ∀ d ∈ tables_1, d.before a0 Z = true) : Jvm.RoadKit.slotOf Z "com/example/arrivals/arrivals/core/SequenceStatistics" "comomentOptimum" "D" ≠ Jvm.RoadKit.slotOf Z "com/example/arrivals/arrivals/core/SequenceStatistics" "comomentOnline" "D" := slot_ne (Or.inl (hw _ (List.mem_of_getElem? (i := 43) rfl))) (Or.inl (hw _ (List.mem_of_getElem? (i := 41) rfl))) (by decide) (t := .double) (t' := .double) (by decide) (by decide)
theorem so_SequenceStatistics_comomentBoth_comomentOnline {Z : State} {a0 : Array Value} (hw : ∀ d ∈ tables_1, d.before a0 Z = true) : Jvm.RoadKit.slotOf Z "com/example/arrivals/arrivals/core/SequenceStatistics" "comomentBoth" "D" ≠ Jvm.RoadKit.slotOf Z "com/example/arrivals/arrivals/core/SequenceStatistics" "comomentOnline" "D" := slot_ne (Or.inl (hw _ (List.mem_of_getElem? (i := 45) rfl))) (Or.inl (hw _ (List.mem_of_getElem? (i := 41) rfl))) (by decide) (t := .double) (t' := .double) (by decide) (by decide)
theorem so_SequenceStatistics_positiveWeight_comomentOnline {Z : State} {a0 : Array Value} (hw : ∀ d ∈ tables_1, d.before a0 Z = true) : Jvm.RoadKit.slotOf Z "com/example/arrivals/arrivals/core/SequenceStatistics" "positiveWeight" "D" ≠ Jvm.RoadKit.slotOf Z "com/example/arrivals/arrivals/core/SequenceStatistics" "comomentOnline" "D" := slot_ne (Or.inl (hw _ (List.mem_of_getElem? (i := 15) rfl))) (Or.inl (hw _ (List.mem_of_getElem? (i := 41) rfl))) (by decide) (t := .double) (t' := .double) (by decide) (by decide)
theorem so_SequenceStatistics_weightedRatios_comomentOnline {Z : State} {a0 : Array Value} (hw : ∀ d ∈ tables_1, d.before a0 Z = true) : Jvm.RoadKit.slotOf Z "com/example/arrivals/arrivals/core/SequenceStatistics" "weightedRatios" "D" ≠ Jvm.RoadKit.slotOf Z "com/example/arrivals/arrivals/core/SequenceStatistics" "comomentOnline" "D" := slot_ne (Or.inl (hw _ (List.mem_of_getElem? (i := 49) rfl))) (Or.inl (hw _ (List.mem_of_getElem? (i := 41) rfl))) (by decide) (t := .double) (t' := .double) (by decide) (by decide)
theorem so_SequenceStatistics_zeroWeight_comomentOnline {Z : State} {a0 : Array Value} (hw : ∀ d ∈ tables_1, d.before a0 Z = true) : Jvm.RoadKit.slotOf Z "com/example/arrivals/arrivals/core/SequenceStatistics" "zeroWeight" "D" ≠ Jvm.RoadKit.slotOf Z "com/example/arrivals/arrivals/core/SequenceStatistics" "comomentOnline" "D" := slot_ne (Or.inl (hw _ (List.mem_of_getElem? (i := 47) rfl))) (Or.inl (hw _ (List.mem_of_getElem? (i := 41) rfl))) (by decide) (t := .double) (t' := .double) (by decide) (by decide)
theorem d4_98 : decode prog_26_method_2_code 98 = .ok (.aload_n 0, 1) := by decide +kernel
theorem d4_99 : decode prog_26_method_2_code 99 = .ok (.dup, 1) := by decide +kernel
theorem d4_100 : decode prog_26_method_2_code 100 = .ok (.getfield 33, 3) := by decide +kernel
theorem d4_103 : decode prog_26_method_2_code 103 = .ok (.dload_n 1, 1) := by decide +kernel
theorem d4_104 : decode prog_26_method_2_code 104 = .ok (.dload 9, 2) := by decide +kernel
theorem d4_106 : decode prog_26_method_2_code 106 = .ok (.dmul, 1) := by decide +kernel
theorem d4_107 : decode prog_26_method_2_code 107 = .ok (.dload 13, 2) := by decide +kernel
theorem d4_109 : decode prog_26_method_2_code 109 = .ok (.dmul, 1) := by decide +kernel
theorem d4_110 : decode prog_26_method_2_code 110 = .ok (.dadd, 1) := by decide +kernel
theorem d4_111 : decode prog_26_method_2_code 111 = .ok (.putfield 33, 3) := by decide +kernel
theorem so_SequenceStatistics_count_comomentOptimum {Z : State} {a0 : Array Value} (hw : ∀ d ∈ tables_1, d.before a0 Z = true) : Jvm.RoadKit.slotOf Z "com/example/arrivals/arrivals/core/SequenceStatistics" "count" "J" ≠ Jvm.RoadKit.slotOf Z "com/example/arrivals/arrivals/core/SequenceStatistics" "comomentOptimum" "D" := slot_ne (Or.inl (hw _ (List.mem_of_getElem? (i := 28) rfl))) (Or.inl (hw _ (List.mem_of_getElem? (i := 43) rfl))) (by decide) (t := .long) (t' := .double) (by decide) (by decide)
theorem so_SequenceStatistics_weight_comomentOptimum {Z : State} {a0 : Array Value} (hw : ∀ d ∈ tables_1, d.before a0 Z = true) : Jvm.RoadKit.slotOf Z "com/example/arrivals/arrivals/core/SequenceStatistics" "weight" "D" ≠ Jvm.RoadKit.slotOf Z "com/example/arrivals/arrivals/core/SequenceStatistics" "comomentOptimum" "D" := slot_ne (Or.inl (hw _ (List.mem_of_getElem? (i := 35) rfl))) (Or.inl (hw _ (List.mem_of_getElem? (i := 43) rfl))) (by decide) (t := .double) (t' := .double) (by decide) (by decide)
theorem so_SequenceStatistics_sumOnline_comomentOptimum {Z : State} {a0 : Array Value} (hw : ∀ d ∈ tables_1, d.before a0 Z = true) : Jvm.RoadKit.slotOf Z "com/example/arrivals/arrivals/core/SequenceStatistics" "sumOnline" "D" ≠ Jvm.RoadKit.slotOf Z "com/example/arrivals/arrivals/core/SequenceStatistics" "comomentOptimum" "D" := slot_ne (Or.inl (hw _ (List.mem_of_getElem? (i := 37) rfl))) (Or.inl (hw _ (List.mem_of_getElem? (i := 43) rfl))) (by decide) (t := .double) (t' := .double) (by decide) (by decide)
theorem so_SequenceStatistics_sumOptimum_comomentOptimum {Z : State} {a0 : Array Value} (hw : ∀ d ∈ tables_1, d.before a0 Z = true) : Jvm.RoadKit.slotOf Z "com/example/arrivals/arrivals/core/SequenceStatistics" "sumOptimum" "D" ≠ Jvm.RoadKit.slotOf Z "com/example/arrivals/arrivals/core/SequenceStatistics" "comomentOptimum" "D" := slot_ne (Or.inl (hw _ (List.mem_of_getElem? (i := 39) rfl))) (Or.inl (hw _ (List.mem_of_getElem? (i := 43) rfl))) (by decide) (t := .double) (t' := .double) (by decide) (by decide)
theorem so_SequenceStatistics_comomentOnline_comomentOptimum {Z : State} {a0 : Array Value} (hw : ∀ d ∈ tables_1, d.before a0 Z = true) : Jvm.RoadKit.slotOf Z "com/example/arrivals/arrivals/core/SequenceStatistics" "comomentOnline" "D" ≠ Jvm.RoadKit.slotOf Z "com/example/arrivals/arrivals/core/SequenceStatistics" "comomentOptimum" "D" := slot_ne (Or.inl (hw _ (List.mem_of_getElem? (i := 41) rfl))) (Or.inl (hw _ (List.mem_of_getElem? (i := 43) rfl))) (by decide) (t := .double) (t' := .double) (by decide) (by decide)
theorem so_SequenceStatistics_comomentBoth_comomentOptimum {Z : State} {a0 : Array Value} (hw : ∀ d ∈ tables_1, d.before a0 Z = true) : Jvm.RoadKit.slotOf Z "com/example/arrivals/arrivals/core/SequenceStatistics" "comomentBoth" "D" ≠ Jvm.RoadKit.slotOf Z "com/example/arrivals/arrivals/core/SequenceStatistics" "comomentOptimum" "D" := slot_ne (Or.inl (hw _ (List.mem_of_getElem? (i := 45) rfl))) (Or.inl (hw _ (List.mem_of_getElem? (i := 43) rfl))) (by decide) (t := .double) (t' := .double) (by decide) (by decide)
theorem so_SequenceStatistics_positiveWeight_comomentOptimum {Z : State} {a0 : Array Value} (hw : ∀ d ∈ tables_1, d.before a0 Z = true) : Jvm.RoadKit.slotOf Z "com/example/arrivals/arrivals/core/SequenceStatistics" "positiveWeight" "D" ≠ Jvm.RoadKit.slotOf Z "com/example/arrivals/arrivals/core/SequenceStatistics" "comomentOptimum" "D" := slot_ne (Or.inl (hw _ (List.mem_of_getElem? (i := 15) rfl))) (Or.inl (hw _ (List.mem_of_getElem? (i := 43) rfl))) (by decide) (t := .double) (t' := .double) (by decide) (by decide)
theorem so_SequenceStatistics_weightedRatios_comomentOptimum {Z : State} {a0 : Array Value} (hw : ∀ d ∈ tables_1, d.before a0 Z = true) : Jvm.RoadKit.slotOf Z "com/example/arrivals/arrivals/core/SequenceStatistics" "weightedRatios" "D" ≠ Jvm.RoadKit.slotOf Z "com/example/arrivals/arrivals/core/SequenceStatistics" "comomentOptimum" "D" := slot_ne (Or.inl (hw _ (List.mem_of_getElem? (i := 49) rfl))) (Or.inl (hw _ (List.mem_of_getElem? (i := 43) rfl))) (by decide) (t := .double) (t' := .double) (by decide) (by decide)
theorem so_SequenceStatistics_zeroWeight_comomentOptimum {Z : State} {a0 : Array Value} (hw : ∀ d ∈ tables_1, d.before a0 Z = true) : Jvm.RoadKit.slotOf Z "com/example/arrivals/arrivals/core/SequenceStatistics" "zeroWeight" "D" ≠ Jvm.RoadKit.slotOf Z "com/example/arrivals/arrivals/core/SequenceStatistics" "comomentOptimum" "D" := slot_ne (Or.inl (hw _ (List.mem_of_getElem? (i := 47) rfl))) (Or.inl (hw _ (List.mem_of_getElem? (i := 43) rfl))) (by decide) (t := .double) (t' := .double) (by decide) (by decide)
theorem d4_114 : decode prog_26_method_2_code 114 = .ok (.aload_n 0, 1) := by decide +kernel
theorem d4_115 : decode prog_26_method_2_code 115 = .ok (.dup, 1) := by decide +kernel
theorem d4_116 : decode prog_26_method_2_code 116 = .ok (.getfield 36, 3) := by decide +kernel
theorem d4_119 : decode prog_26_method_2_code 119 = .ok (.dload_n 1, 1) := by decide +kernel
theorem d4_120 : decode prog_26_method_2_code 120 = .ok (.dload 7, 2) := by decide +kernel
theorem d4_122 : decode prog_26_method_2_code 122 = .ok (.dmul, 1) := by decide +kernel
theorem d4_123 : decode prog_26_method_2_code 123 = .ok (.dload 13, 2) := by decide +kernel
theorem d4_125 : decode prog_26_method_2_code 125 = .ok (.dmul, 1) := by decide +kernel
theorem d4_126 : decode prog_26_method_2_code 126 = .ok (.dadd, 1) := by decide +kernel
theorem d4_127 : decode prog_26_method_2_code 127 = .ok (.putfield 36, 3) := by decide +kernel
theorem so_SequenceStatistics_count_comomentBoth {Z : State} {a0 : Array Value} (hw : ∀ d ∈ tables_1, d.before a0 Z = true) : Jvm.RoadKit.slotOf Z "com/example/arrivals/arrivals/core/SequenceStatistics" "count" "J" ≠ Jvm.RoadKit.slotOf Z "com/example/arrivals/arrivals/core/SequenceStatistics" "comomentBoth" "D" := slot_ne (Or.inl (hw _ (List.mem_of_getElem? (i := 28) rfl))) (Or.inl (hw _ (List.mem_of_getElem? (i := 45) rfl))) (by decide) (t := .long) (t' := .double) (by decide) (by decide)
theorem so_SequenceStatistics_weight_comomentBoth {Z : State} {a0 : Array Value} (hw : ∀ d ∈ tables_1, d.before a0 Z = true) : Jvm.RoadKit.slotOf Z "com/example/arrivals/arrivals/core/SequenceStatistics" "weight" "D" ≠ Jvm.RoadKit.slotOf Z "com/example/arrivals/arrivals/core/SequenceStatistics" "comomentBoth" "D" := slot_ne (Or.inl (hw _ (List.mem_of_getElem? (i := 35) rfl))) (Or.inl (hw _ (List.mem_of_getElem? (i := 45) rfl))) (by decide) (t := .double) (t' := .double) (by decide) (by decide)
theorem so_SequenceStatistics_sumOnline_comomentBoth {Z : State} {a0 : Array Value} (hw : ∀ d ∈ tables_1, d.before a0 Z = true) : Jvm.RoadKit.slotOf Z "com/example/arrivals/arrivals/core/SequenceStatistics" "sumOnline" "D" ≠ Jvm.RoadKit.slotOf Z "com/example/arrivals/arrivals/core/SequenceStatistics" "comomentBoth" "D" := slot_ne (Or.inl (hw _ (List.mem_of_getElem? (i := 37) rfl))) (Or.inl (hw _ (List.mem_of_getElem? (i := 45) rfl))) (by decide) (t := .double) (t' := .double) (by decide) (by decide)
theorem so_SequenceStatistics_sumOptimum_comomentBoth {Z : State} {a0 : Array Value} (hw : ∀ d ∈ tables_1, d.before a0 Z = true) : Jvm.RoadKit.slotOf Z "com/example/arrivals/arrivals/core/SequenceStatistics" "sumOptimum" "D" ≠ Jvm.RoadKit.slotOf Z "com/example/arrivals/arrivals/core/SequenceStatistics" "comomentBoth" "D" := slot_ne (Or.inl (hw _ (List.mem_of_getElem? (i := 39) rfl))) (Or.inl (hw _ (List.mem_of_getElem? (i := 45) rfl))) (by decide) (t := .double) (t' := .double) (by decide) (by decide)
theorem so_SequenceStatistics_comomentOnline_comomentBoth {Z : State} {a0 : Array Value} (hw : ∀ d ∈ tables_1, d.before a0 Z = true) : Jvm.RoadKit.slotOf Z "com/example/arrivals/arrivals/core/SequenceStatistics" "comomentOnline" "D" ≠ Jvm.RoadKit.slotOf Z "com/example/arrivals/arrivals/core/SequenceStatistics" "comomentBoth" "D" := slot_ne (Or.inl (hw _ (List.mem_of_getElem? (i := 41) rfl))) (Or.inl (hw _ (List.mem_of_getElem? (i := 45) rfl))) (by decide) (t := .double) (t' := .double) (by decide) (by decide)
theorem so_SequenceStatistics_comomentOptimum_comomentBoth {Z : State} {a0 : Array Value} (hw : ∀ d ∈ tables_1, d.before a0 Z = true) : Jvm.RoadKit.slotOf Z "com/example/arrivals/arrivals/core/SequenceStatistics" "comomentOptimum" "D" ≠ Jvm.RoadKit.slotOf Z "com/example/arrivals/arrivals/core/SequenceStatistics" "comomentBoth" "D" := slot_ne (Or.inl (hw _ (List.mem_of_getElem? (i := 43) rfl))) (Or.inl (hw _ (List.mem_of_getElem? (i := 45) rfl))) (by decide) (t := .double) (t' := .double) (by decide) (by decide)
theorem so_SequenceStatistics_positiveWeight_comomentBoth {Z : State} {a0 : Array Value} (hw : ∀ d ∈ tables_1, d.before a0 Z = true) : Jvm.RoadKit.slotOf Z "com/example/arrivals/arrivals/core/SequenceStatistics" "positiveWeight" "D" ≠ Jvm.RoadKit.slotOf Z "com/example/arrivals/arrivals/core/SequenceStatistics" "comomentBoth" "D" := slot_ne (Or.inl (hw _ (List.mem_of_getElem? (i := 15) rfl))) (Or.inl (hw _ (List.mem_of_getElem? (i := 45) rfl))) (by decide) (t := .double) (t' := .double) (by decide) (by decide)
theorem so_SequenceStatistics_weightedRatios_comomentBoth {Z : State} {a0 : Array Value} (hw : ∀ d ∈ tables_1, d.before a0 Z = true) : Jvm.RoadKit.slotOf Z "com/example/arrivals/arrivals/core/SequenceStatistics" "weightedRatios" "D" ≠ Jvm.RoadKit.slotOf Z "com/example/arrivals/arrivals/core/SequenceStatistics" "comomentBoth" "D" := slot_ne (Or.inl (hw _ (List.mem_of_getElem? (i := 49) rfl))) (Or.inl (hw _ (List.mem_of_getElem? (i := 45) rfl))) (by decide) (t := .double) (t' := .double) (by decide) (by decide)
theorem so_SequenceStatistics_zeroWeight_comomentBoth {Z : State} {a0 : Array Value} (hw : ∀ d ∈ tables_1, d.before a0 Z = true) : Jvm.RoadKit.slotOf Z "com/example/arrivals/arrivals/core/SequenceStatistics" "zeroWeight" "D" ≠ Jvm.RoadKit.slotOf Z "com/example/arrivals/arrivals/core/SequenceStatistics" "comomentBoth" "D" := slot_ne (Or.inl (hw _ (List.mem_of_getElem? (i := 47) rfl))) (Or.inl (hw _ (List.mem_of_getElem? (i := 45) rfl))) (by decide) (t := .double) (t' := .double) (by decide) (by decide)
theorem d4_130 : decode prog_26_method_2_code 130 = .ok (.lload 5, 2) := by decide +kernel
theorem d4_132 : decode prog_26_method_2_code 132 = .ok (.lconst 0, 1) := by decide +kernel
theorem d4_133 : decode prog_26_method_2_code 133 = .ok (.lcmp, 1) := by decide +kernel
theorem d4_134 : decode prog_26_method_2_code 134 = .ok (.ifCond .le 32, 3) := by decide +kernel
theorem d4_137 : decode prog_26_method_2_code 137 = .ok (.aload_n 0, 1) := by decide +kernel
theorem d4_138 : decode prog_26_method_2_code 138 = .ok (.dup, 1) := by decide +kernel
theorem d4_139 : decode prog_26_method_2_code 139 = .ok (.getfield 39, 3) := by decide +kernel
theorem d4_142 : decode prog_26_method_2_code 142 = .ok (.dload_n 1, 1) := by decide +kernel
theorem d4_143 : decode prog_26_method_2_code 143 = .ok (.dadd, 1) := by decide +kernel
theorem d4_144 : decode prog_26_method_2_code 144 = .ok (.putfield 39, 3) := by decide +kernel
theorem so_SequenceStatistics_count_positiveWeight {Z : State} {a0 : Array Value} (hw : ∀ d ∈ tables_1, d.before a0 Z = true) : Jvm.RoadKit.slotOf Z "com/example/arrivals/arrivals/core/SequenceStatistics" "count" "J" ≠ Jvm.RoadKit.slotOf Z "com/example/arrivals/arrivals/core/SequenceStatistics" "positiveWeight" "D" := slot_ne (Or.inl (hw _ (List.mem_of_getElem? (i := 28) rfl))) (Or.inl (hw _ (List.mem_of_getElem? (i := 15) rfl))) (by decide) (t := .long) (t' := .double) (by decide) (by decide)
theorem so_SequenceStatistics_weight_positiveWeight {Z : State} {a0 : Array Value} (hw : ∀ d ∈ tables_1, d.before a0 Z = true) : Jvm.RoadKit.slotOf Z "com/example/arrivals/arrivals/core/SequenceStatistics" "weight" "D" ≠ Jvm.RoadKit.slotOf Z "com/example/arrivals/arrivals/core/SequenceStatistics" "positiveWeight" "D" := slot_ne (Or.inl (hw _ (List.mem_of_getElem? (i := 35) rfl))) (Or.inl (hw _ (List.mem_of_getElem? (i := 15) rfl))) (by decide) (t := .double) (t' := .double) (by decide) (by decide)
theorem so_SequenceStatistics_sumOnline_positiveWeight {Z : State} {a0 : Array Value} (hw : ∀ d ∈ tables_1, d.before a0 Z = true) : Jvm.RoadKit.slotOf Z "com/example/arrivals/arrivals/core/SequenceStatistics" "sumOnline" "D" ≠ Jvm.RoadKit.slotOf Z "com/example/arrivals/arrivals/core/SequenceStatistics" "positiveWeight" "D" := slot_ne (Or.inl (hw _ (List.mem_of_getElem? (i := 37) rfl))) (Or.inl (hw _ (List.mem_of_getElem? (i := 15) rfl))) (by decide) (t := .double) (t' := .double) (by decide) (by decide)
theorem so_SequenceStatistics_sumOptimum_positiveWeight {Z : State} {a0 : Array Value} (hw : ∀ d ∈ tables_1, d.before a0 Z = true) : Jvm.RoadKit.slotOf Z "com/example/arrivals/arrivals/core/SequenceStatistics" "sumOptimum" "D" ≠ Jvm.RoadKit.slotOf Z "com/example/arrivals/arrivals/core/SequenceStatistics" "positiveWeight" "D" := slot_ne (Or.inl (hw _ (List.mem_of_getElem? (i := 39) rfl))) (Or.inl (hw _ (List.mem_of_getElem? (i := 15) rfl))) (by decide) (t := .double) (t' := .double) (by decide) (by decide)
theorem so_SequenceStatistics_comomentOnline_positiveWeight {Z : State} {a0 : Array Value} (hw : ∀ d ∈ tables_1, d.before a0 Z = true) : Jvm.RoadKit.slotOf Z "com/example/arrivals/arrivals/core/SequenceStatistics" "comomentOnline" "D" ≠ Jvm.RoadKit.slotOf Z "com/example/arrivals/arrivals/core/SequenceStatistics" "positiveWeight" "D" := slot_ne (Or.inl (hw _ (List.mem_of_getElem? (i := 41) rfl))) (Or.inl (hw _ (List.mem_of_getElem? (i := 15) rfl))) (by decide) (t := .double) (t' := .double) (by decide) (by decide)
theorem so_SequenceStatistics_comomentOptimum_positiveWeight {Z : State} {a0 : Array Value} (hw : ∀ d ∈ tables_1, d.before a0 Z = true) : Jvm.RoadKit.slotOf Z "com/example/arrivals/arrivals/core/SequenceStatistics" "comomentOptimum" "D" ≠ Jvm.RoadKit.slotOf Z "com/example/arrivals/arrivals/core/SequenceStatistics" "positiveWeight" "D" := slot_ne (Or.inl (hw _ (List.mem_of_getElem? (i := 43) rfl))) (Or.inl (hw _ (List.mem_of_getElem? (i := 15) rfl))) (by decide) (t := .double) (t' := .double) (by decide) (by decide)
theorem so_SequenceStatistics_comomentBoth_positiveWeight {Z : State} {a0 : Array Value} (hw : ∀ d ∈ tables_1, d.before a0 Z = true) : Jvm.RoadKit.slotOf Z "com/example/arrivals/arrivals/core/SequenceStatistics" "comomentBoth" "D" ≠ Jvm.RoadKit.slotOf Z "com/example/arrivals/arrivals/core/SequenceStatistics" "positiveWeight" "D" := slot_ne (Or.inl (hw _ (List.mem_of_getElem? (i := 45) rfl))) (Or.inl (hw _ (List.mem_of_getElem? (i := 15) rfl))) (by decide) (t := .double) (t' := .double) (by decide) (by decide)
theorem so_SequenceStatistics_weightedRatios_positiveWeight {Z : State} {a0 : Array Value} (hw : ∀ d ∈ tables_1, d.before a0 Z = true) : Jvm.RoadKit.slotOf Z "com/example/arrivals/arrivals/core/SequenceStatistics" "weightedRatios" "D" ≠ Jvm.RoadKit.slotOf Z "com/example/arrivals/arrivals/core/SequenceStatistics" "positiveWeight" "D" := slot_ne (Or.inl (hw _ (List.mem_of_getElem? (i := 49) rfl))) (Or.inl (hw _ (List.mem_of_getElem? (i := 15) rfl))) (by decide) (t := .double) (t' := .double) (by decide) (by decide)
theorem so_SequenceStatistics_zeroWeight_positiveWeight {Z : State} {a0 : Array Value} (hw : ∀ d ∈ tables_1, d.before a0 Z = true) : Jvm.RoadKit.slotOf Z "com/example/arrivals/arrivals/core/SequenceStatistics" "zeroWeight" "D" ≠ Jvm.RoadKit.slotOf Z "com/example/arrivals/arrivals/core/SequenceStatistics" "positiveWeight" "D" := slot_ne (Or.inl (hw _ (List.mem_of_getElem? (i := 47) rfl))) (Or.inl (hw _ (List.mem_of_getElem? (i := 15) rfl))) (by decide) (t := .double) (t' := .double) (by decide) (by decide)
theorem d4_147 : decode prog_26_method_2_code 147 = .ok (.aload_n 0, 1) := by decide +kernel
theorem d4_148 : decode prog_26_method_2_code 148 = .ok (.dup, 1) := by decide +kernel
theorem d4_149 : decode prog_26_method_2_code 149 = .ok (.getfield 42, 3) := by decide +kernel
theorem d4_152 : decode prog_26_method_2_code 152 = .ok (.dload_n 1, 1) := by decide +kernel
theorem d4_153 : decode prog_26_method_2_code 153 = .ok (.dload_n 3, 1) := by decide +kernel
theorem d4_154 : decode prog_26_method_2_code 154 = .ok (.lload 5, 2) := by decide +kernel
theorem d4_156 : decode prog_26_method_2_code 156 = .ok (.l2d, 1) := by decide +kernel
theorem d4_157 : decode prog_26_method_2_code 157 = .ok (.ddiv, 1) := by decide +kernel
theorem d4_158 : decode prog_26_method_2_code 158 = .ok (.dmul, 1) := by decide +kernel
theorem d4_159 : decode prog_26_method_2_code 159 = .ok (.dadd, 1) := by decide +kernel
theorem d4_160 : decode prog_26_method_2_code 160 = .ok (.putfield 42, 3) := by decide +kernel
theorem so_SequenceStatistics_count_weightedRatios {Z : State} {a0 : Array Value} (hw : ∀ d ∈ tables_1, d.before a0 Z = true) : Jvm.RoadKit.slotOf Z "com/example/arrivals/arrivals/core/SequenceStatistics" "count" "J" ≠ Jvm.RoadKit.slotOf Z "com/example/arrivals/arrivals/core/SequenceStatistics" "weightedRatios" "D" := slot_ne (Or.inl (hw _ (List.mem_of_getElem? (i := 28) rfl))) (Or.inl (hw _ (List.mem_of_getElem? (i := 49) rfl))) (by decide) (t := .long) (t' := .double) (by decide) (by decide)
theorem so_SequenceStatistics_weight_weightedRatios {Z : State} {a0 : Array Value} (hw : ∀ d ∈ tables_1, d.before a0 Z = true) : Jvm.RoadKit.slotOf Z "com/example/arrivals/arrivals/core/SequenceStatistics" "weight" "D" ≠ Jvm.RoadKit.slotOf Z "com/example/arrivals/arrivals/core/SequenceStatistics" "weightedRatios" "D" := slot_ne (Or.inl (hw _ (List.mem_of_getElem? (i := 35) rfl))) (Or.inl (hw _ (List.mem_of_getElem? (i := 49) rfl))) (by decide) (t := .double) (t' := .double) (by decide) (by decide)
theorem so_SequenceStatistics_sumOnline_weightedRatios {Z : State} {a0 : Array Value} (hw : ∀ d ∈ tables_1, d.before a0 Z = true) : Jvm.RoadKit.slotOf Z "com/example/arrivals/arrivals/core/SequenceStatistics" "sumOnline" "D" ≠ Jvm.RoadKit.slotOf Z "com/example/arrivals/arrivals/core/SequenceStatistics" "weightedRatios" "D" := slot_ne (Or.inl (hw _ (List.mem_of_getElem? (i := 37) rfl))) (Or.inl (hw _ (List.mem_of_getElem? (i := 49) rfl))) (by decide) (t := .double) (t' := .double) (by decide) (by decide)
theorem so_SequenceStatistics_sumOptimum_weightedRatios {Z : State} {a0 : Array Value} (hw : ∀ d ∈ tables_1, d.before a0 Z = true) : Jvm.RoadKit.slotOf Z "com/example/arrivals/arrivals/core/SequenceStatistics" "sumOptimum" "D" ≠ Jvm.RoadKit.slotOf Z "com/example/arrivals/arrivals/core/SequenceStatistics" "weightedRatios" "D" := slot_ne (Or.inl (hw _ (List.mem_of_getElem? (i := 39) rfl))) (Or.inl (hw _ (List.mem_of_getElem? (i := 49) rfl))) (by decide) (t := .double) (t' := .double) (by decide) (by decide)
theorem so_SequenceStatistics_comomentOnline_weightedRatios {Z : State} {a0 : Array Value} (hw : ∀ d ∈ tables_1, d.before a0 Z = true) : Jvm.RoadKit.slotOf Z "com/example/arrivals/arrivals/core/SequenceStatistics" "comomentOnline" "D" ≠ Jvm.RoadKit.slotOf Z "com/example/arrivals/arrivals/core/SequenceStatistics" "weightedRatios" "D" := slot_ne (Or.inl (hw _ (List.mem_of_getElem? (i := 41) rfl))) (Or.inl (hw _ (List.mem_of_getElem? (i := 49) rfl))) (by decide) (t := .double) (t' := .double) (by decide) (by decide)
theorem so_SequenceStatistics_comomentOptimum_weightedRatios {Z : State} {a0 : Array Value} (hw : ∀ d ∈ tables_1, d.before a0 Z = true) : Jvm.RoadKit.slotOf Z "com/example/arrivals/arrivals/core/SequenceStatistics" "comomentOptimum" "D" ≠ Jvm.RoadKit.slotOf Z "com/example/arrivals/arrivals/core/SequenceStatistics" "weightedRatios" "D" := slot_ne (Or.inl (hw _ (List.mem_of_getElem? (i := 43) rfl))) (Or.inl (hw _ (List.mem_of_getElem? (i := 49) rfl))) (by decide) (t := .double) (t' := .double) (by decide) (by decide)
theorem so_SequenceStatistics_comomentBoth_weightedRatios {Z : State} {a0 : Array Value} (hw : ∀ d ∈ tables_1, d.before a0 Z = true) : Jvm.RoadKit.slotOf Z "com/example/arrivals/arrivals/core/SequenceStatistics" "comomentBoth" "D" ≠ Jvm.RoadKit.slotOf Z "com/example/arrivals/arrivals/core/SequenceStatistics" "weightedRatios" "D" := slot_ne (Or.inl (hw _ (List.mem_of_getElem? (i := 45) rfl))) (Or.inl (hw _ (List.mem_of_getElem? (i := 49) rfl))) (by decide) (t := .double) (t' := .double) (by decide) (by decide)
theorem so_SequenceStatistics_positiveWeight_weightedRatios {Z : State} {a0 : Array Value} (hw : ∀ d ∈ tables_1, d.before a0 Z = true) : Jvm.RoadKit.slotOf Z "com/example/arrivals/arrivals/core/SequenceStatistics" "positiveWeight" "D" ≠ Jvm.RoadKit.slotOf Z "com/example/arrivals/arrivals/core/SequenceStatistics" "weightedRatios" "D" := slot_ne (Or.inl (hw _ (List.mem_of_getElem? (i := 15) rfl))) (Or.inl (hw _ (List.mem_of_getElem? (i := 49) rfl))) (by decide) (t := .double) (t' := .double) (by decide) (by decide)
theorem so_SequenceStatistics_zeroWeight_weightedRatios {Z : State} {a0 : Array Value} (hw : ∀ d ∈ tables_1, d.before a0 Z = true) : Jvm.RoadKit.slotOf Z "com/example/arrivals/arrivals/core/SequenceStatistics" "zeroWeight" "D" ≠ Jvm.RoadKit.slotOf Z "com/example/arrivals/arrivals/core/SequenceStatistics" "weightedRatios" "D" := slot_ne (Or.inl (hw _ (List.mem_of_getElem? (i := 47) rfl))) (Or.inl (hw _ (List.mem_of_getElem? (i := 49) rfl))) (by decide) (t := .double) (t' := .double) (by decide) (by decide)
theorem d4_163 : decode prog_26_method_2_code 163 = .ok (.goto 13, 3) := by decide +kernel
theorem d4_176 : decode prog_26_method_2_code 176 = .ok (.return_, 1) := by decide +kernel
theorem ef_4_RDDJ (m : MethodId) (x0 : Addr) (x1 : UInt64) (x2 : UInt64) (x3 : Int64) : entryFrame m #[(.ref x0), (.double x1), (.double x2), (.long x3)] 15 = mkF m 0 #[.val (.ref x0), .val (.double x1), .second, .val (.double x2), .second, .val (.long x3), .second, .unset, .unset, .unset, .unset, .unset, .unset, .unset, .unset] [] := by first | (simp [entryFrame, mkF, argsToLocals, Value.category]; done) | rfl
def Q_rm4_0p (Z : State) (t0 : Addr) (sw : UInt64) (on : UInt64) (op : Int64) (ob1 : UInt64) (pb1 : UInt64) (w1 : UInt64) (so1 : UInt64) (sp1 : UInt64) (oa1 : UInt64) (pa1 : UInt64) (ma1 : UInt64) (mb1 : UInt64) (mc1 : UInt64) (pw1 : UInt64) (wr1 : UInt64) (h0 : Heap) (n0 : Nat) (v : Option Value) (h : Heap) (L : List Loc) : Prop := v = none ∧ Fr n0 L ∧ Keep h0 h [t0] ∧ Exa Z h t0 "com/example/arrivals/arrivals/core/SequenceStatistics" ∧ Fld Z h t0 "com/example/arrivals/arrivals/core/SequenceStatistics" "count" "J" (.long (1 : Int64)) ∧ Fld Z h t0 "com/example/arrivals/arrivals/core/SequenceStatistics" "weight" "D" (.double w1) ∧ Fld Z h t0 "com/example/arrivals/arrivals/core/SequenceStatistics" "sumOnline" "D" (.double so1) ∧ Fld Z h t0 "com/example/arrivals/arrivals/core/SequenceStatistics" "sumOptimum" "D" (.double sp1) ∧ Fld Z h t0 "com/example/arrivals/arrivals/core/SequenceStatistics" "comomentOnline" "D" (.double ma1) ∧ Fld Z h t0 "com/example/arrivals/arrivals/core/SequenceStatistics" "comomentOptimum" "D" (.double mb1) ∧ Fld Z h t0 "com/example/arrivals/arrivals/core/SequenceStatistics" "comomentBoth" "D" (.double mc1) ∧ Fld Z h t0 "com/example/arrivals/arrivals/core/SequenceStatistics" "positiveWeight" "D" (.double pw1) ∧ Fld Z h t0 "com/example/arrivals/arrivals/core/SequenceStatistics" "weightedRatios" "D" (.double wr1) ∧ Fld Z h t0 "com/example/arrivals/arrivals/core/SequenceStatistics" "zeroWeight" "D" (.double (0 : UInt64))
set_option maxRecDepth 65536 in
set_option maxHeartbeats 40000000 in
theorem rm4_0p (l : Launch) (Z : State) (a0 : Array Value) (hw : ∀ d ∈ tables_1, d.before a0 Z = true) (ws : List Jvm.Cond) (t0 : Addr) (sw : UInt64) (on : UInt64) (op : Int64) (ob1 : UInt64) (pb1 : UInt64) (w1 : UInt64) (so1 : UInt64) (sp1 : UInt64) (oa1 : UInt64) (pa1 : UInt64) (ma1 : UInt64) (mb1 : UInt64) (mc1 : UInt64) (pw1 : UInt64) (wr1 : UInt64) (h0 : Heap) (n0 : Nat) (Z0 : n0 ≤ h0.size) (E_t0 : Exa Z h0 t0 "com/example/arrivals/arrivals/core/SequenceStatistics") (g_t0 : n0 ≤ t0) (F_count_t0 : Fld Z h0 t0 "com/example/arrivals/arrivals/core/SequenceStatistics" "count" "J" (.long (0 : Int64))) (F_weight_t0 : Fld Z h0 t0 "com/example/arrivals/arrivals/core/SequenceStatistics" "weight" "D" (.double (0 : UInt64))) (F_sumOnline_t0 : Fld Z h0 t0 "com/example/arrivals/arrivals/core/SequenceStatistics" "sumOnline" "D" (.double (0 : UInt64))) (F_sumOptimum_t0 : Fld Z h0 t0 "com/example/arrivals/arrivals/core/SequenceStatistics" "sumOptimum" "D" (.double (0 : UInt64))) (F_comomentOnline_t0 : Fld Z h0 t0 "com/example/arrivals/arrivals/core/SequenceStatistics" "comomentOnline" "D" (.double (0 : UInt64))) (F_comomentOptimum_t0 : Fld Z h0 t0 "com/example/arrivals/arrivals/core/SequenceStatistics" "comomentOptimum" "D" (.double (0 : UInt64))) (F_comomentBoth_t0 : Fld Z h0 t0 "com/example/arrivals/arrivals/core/SequenceStatistics" "comomentBoth" "D" (.double (0 : UInt64))) (F_positiveWeight_t0 : Fld Z h0 t0 "com/example/arrivals/arrivals/core/SequenceStatistics" "positiveWeight" "D" (.double (0 : UInt64))) (F_weightedRatios_t0 : Fld Z h0 t0 "com/example/arrivals/arrivals/core/SequenceStatistics" "weightedRatios" "D" (.double (0 : UInt64))) (F_zeroWeight_t0 : Fld Z h0 t0 "com/example/arrivals/arrivals/core/SequenceStatistics" "zeroWeight" "D" (.double (0 : UInt64))) (nn5 : Jvm.Free.Fl.NoNaN64 (FP.dsub on (0 : UInt64))) (hq5 : (FP.dsub on (0 : UInt64)) = ob1) (nn15 : Jvm.Free.Fl.NoNaN64 (FP.dsub (FP.l2d op) (0 : UInt64))) (hq15 : (FP.dsub (FP.l2d op) (0 : UInt64)) = pb1) (nn34 : Jvm.Free.Fl.NoNaN64 (FP.dadd (0 : UInt64) sw)) (hq34 : (FP.dadd (0 : UInt64) sw) = w1) (nn45 : Jvm.Free.Fl.NoNaN64 (FP.dmul sw on)) (nn46 : Jvm.Free.Fl.NoNaN64 (FP.dadd (0 : UInt64) (FP.dmul sw on))) (hq46 : (FP.dadd (0 : UInt64) (FP.dmul sw on)) = so1) (nn59 : Jvm.Free.Fl.NoNaN64 (FP.dmul sw (FP.l2d op))) (nn60 : Jvm.Free.Fl.NoNaN64 (FP.dadd (0 : UInt64) (FP.dmul sw (FP.l2d op)))) (hq60 : (FP.dadd (0 : UInt64) (FP.dmul sw (FP.l2d op))) = sp1) (nn21_66 : Jvm.Free.Fl.NoNaN64 (FP.ddiv so1 w1)) (nn69 : Jvm.Free.Fl.NoNaN64 (FP.dsub on (FP.ddiv so1 w1))) (hq69 : (FP.dsub on (FP.ddiv so1 w1)) = oa1) (nn21_76 : Jvm.Free.Fl.NoNaN64 (FP.ddiv sp1 w1)) (nn79 : Jvm.Free.Fl.NoNaN64 (FP.dsub (FP.l2d op) (FP.ddiv sp1 w1))) (hq79 : (FP.dsub (FP.l2d op) (FP.ddiv sp1 w1)) = pa1) (nn90 : Jvm.Free.Fl.NoNaN64 (FP.dmul sw ob1)) (nn93 : Jvm.Free.Fl.NoNaN64 (FP.dmul (FP.dmul sw ob1) oa1)) (nn94 : Jvm.Free.Fl.NoNaN64 (FP.dadd (0 : UInt64) (FP.dmul (FP.dmul sw ob1) oa1))) (hq94 : (FP.dadd (0 : UInt64) (FP.dmul (FP.dmul sw ob1) oa1)) = ma1) (nn106 : Jvm.Free.Fl.NoNaN64 (FP.dmul sw pb1)) (nn109 : Jvm.Free.Fl.NoNaN64 (FP.dmul (FP.dmul sw pb1) pa1)) (nn110 : Jvm.Free.Fl.NoNaN64 (FP.dadd (0 : UInt64) (FP.dmul (FP.dmul sw pb1) pa1))) (hq110 : (FP.dadd (0 : UInt64) (FP.dmul (FP.dmul sw pb1) pa1)) = mb1) (nn122 : Jvm.Free.Fl.NoNaN64 (FP.dmul sw ob1)) (nn125 : Jvm.Free.Fl.NoNaN64 (FP.dmul (FP.dmul sw ob1) pa1)) (nn126 : Jvm.Free.Fl.NoNaN64 (FP.dadd (0 : UInt64) (FP.dmul (FP.dmul sw ob1) pa1))) (hq126 : (FP.dadd (0 : UInt64) (FP.dmul (FP.dmul sw ob1) pa1)) = mc1) (hc134 : (0 : Int32) < (lcmpW op (0 : Int64))) (nn143 : Jvm.Free.Fl.NoNaN64 (FP.dadd (0 : UInt64) sw)) (hq143 : (FP.dadd (0 : UInt64) sw) = pw1) (nn157 : Jvm.Free.Fl.NoNaN64 (FP.ddiv on (FP.l2d op))) (nn158 : Jvm.Free.Fl.NoNaN64 (FP.dmul sw (FP.ddiv on (FP.l2d op)))) (nn159 : Jvm.Free.Fl.NoNaN64 (FP.dadd (0 : UInt64) (FP.dmul sw (FP.ddiv on (FP.l2d op))))) (hq159 : (FP.dadd (0 : UInt64) (FP.dmul sw (FP.ddiv on (FP.l2d op)))) = wr1) :
    MetFree l (⟨"com/example/arrivals/arrivals/core/SequenceStatistics", "add", "(DDJ)V"⟩ : MethodName) (head1 (Jvm.Cond.code (⟨"com/example/arrivals/arrivals/core/SequenceStatistics", "add", "(DDJ)V"⟩ : MethodName) prog_26_method_2_code 15 none :: ws) ({ frames := 1, cells := 0, slots := 0, locals := 14 } : Room)) (fun a U => a = #[(.ref t0), (.double sw), (.double on), (.long op)] ∧ Z.Warmed39 U.vm ∧ U.heap = h0) (fun _ _ _ _ _ => True) (fun _ U o U' => ∃ v L, o = .returned v ∧ Q_rm4_0p Z t0 sw on op ob1 pb1 w1 so1 sp1 oa1 pa1 ma1 mb1 mc1 pw1 wr1 h0 n0 v U'.heap L ∧ FrameEnd U o U' L ({ frames := 1, cells := 0, slots := 0, locals := 14 } : Room).cells ({ frames := 1, cells := 0, slots := 0, locals := 14 } : Room).slots) := by
  refine MetFree.of_bodySF (plainFor_of_name pn_com_example_arrivals_arrivals_core_SequenceStatistics) hisR ?_
  intro p e s m args below meth c s₁ Bd hml0 hP hK
  obtain ⟨rfl, hZ, hh⟩ := hP
  have hx := Bd.exec
  have hby := Bd.bytes
  have hml : c.maxLocals = 15 := hml0
  have hown : s.vm.findClass "com/example/arrivals/arrivals/core/SequenceStatistics" = some m.cls := findClass_of_methodNamed Bd.named
  have hnm := (name_of_methodNamed Bd.named Bd.method).1
  have X0 : Stand p l e ({ frames := 1, cells := 0, slots := 0, locals := 14 } : Room) s m #[(.ref t0), (.double sw), (.double on), (.long op)] below meth c s₁ [] 0 0 := Stand.of_body Bd
  have e0 : s₁.heap = h0 := by rw [← hh, Bd.state]; rfl
  have N0 := Fr.nil n0
  have pre0 : ∀ t, Steps p.tables e below (s₁.setTop (mkF m 0 #[.val (.ref t0), .val (.double sw), .second, .val (.double on), .second, .val (.long op), .second, .unset, .unset, .unset, .unset, .unset, .unset, .unset, .unset] [])) t → Steps p.tables e below (s₁.setTop (entryFrame m #[(.ref t0), (.double sw), (.double on), (.long op)] 15)) t := fun t k => castTop (ef_4_RDDJ m t0 sw on op) k
  obtain ⟨cq1, kq1, q1a, q1b, q1c⟩ := isOf hZ e0 E_t0
  obtain ⟨_, _, ⟨T1, L1, k1, n1⟩, -, X1, ⟨Lc1, hQ1, l1, y1, z1⟩, st1⟩ := X0.virtualBack hx (y := (⟨"com/example/arrivals/arrivals/core/SequenceStatistics", "meanOnline", "()D"⟩ : MethodName)) (z := (⟨"com/example/arrivals/arrivals/core/SequenceStatistics", "meanOnline", "()D"⟩ : MethodName)) hown (mvT hZ (hw _ (List.mem_of_getElem? (i := 22) rfl))) (mvT hZ (hw _ (List.mem_of_getElem? (i := 23) rfl))) (notFace_of_selects (args := #[]) (mvT hZ (hw _ (List.mem_of_getElem? (i := 25) rfl)))) (mvT hZ (hw _ (List.mem_of_getElem? (i := 25) rfl))) (mvT hZ (hw _ (List.mem_of_getElem? (i := 24) rfl))) (by decide) (backOf (W := 2) (rm5_0 l Z a0 hw [] t0 h0 n0 Z0 F_count_t0) hZ (hw _ (List.mem_of_getElem? (i := 26) rfl)) (hw _ (List.mem_of_getElem? (i := 2) rfl)) (by decide) (by decide)) q1a q1c (g := (mkF m 2 #[.val (.ref t0), .val (.double sw), .second, .val (.double on), .second, .val (.long op), .second, .unset, .unset, .unset, .unset, .unset, .unset, .unset, .unset] [(.ref t0), (.double on)])) rfl (by rw [hml]; rfl) (Steps.refl _) (argsL := []) (rest := [(.double on)]) (lenOf pd_0 rfl) rfl (by show 2 * 0 + _ ≤ _; exact Nat.le_of_eq rfl) (hb hby d4_2) (fun _ _ => ⟨rfl, e0, (by decide : 0 + 0 ≤ _), (by decide : 0 + 0 ≤ _)⟩)
  dsimp only [Pt.U, Pt.locs, Pt.cells, Pt.slots] at X1 l1 y1 z1 st1 hQ1
  subst l1 y1 z1
  obtain ⟨rfl, N1q, eh1⟩ := hQ1
  have N1 := Fr.app N0 N1q
  have e1 : T1.heap = h0 := eh1
  obtain ⟨cq2, kq2, q2a, q2b, q2c⟩ := isOf hZ e1 E_t0
  obtain ⟨_, _, ⟨T2, L2, k2, n2⟩, -, X2, ⟨Lc2, hQ2, l2, y2, z2⟩, st2⟩ := X1.virtualBack hx (y := (⟨"com/example/arrivals/arrivals/core/SequenceStatistics", "meanOptimum", "()D"⟩ : MethodName)) (z := (⟨"com/example/arrivals/arrivals/core/SequenceStatistics", "meanOptimum", "()D"⟩ : MethodName)) hown (mvT hZ (hw _ (List.mem_of_getElem? (i := 29) rfl))) (mvT hZ (hw _ (List.mem_of_getElem? (i := 30) rfl))) (notFace_of_selects (args := #[]) (mvT hZ (hw _ (List.mem_of_getElem? (i := 32) rfl)))) (mvT hZ (hw _ (List.mem_of_getElem? (i := 32) rfl))) (mvT hZ (hw _ (List.mem_of_getElem? (i := 31) rfl))) (by decide) (backOf (W := 2) (rm6_0 l Z a0 hw [] t0 h0 n0 Z0 F_count_t0) hZ (hw _ (List.mem_of_getElem? (i := 33) rfl)) (hw _ (List.mem_of_getElem? (i := 2) rfl)) (by decide) (by decide)) q2a q2c (g := (mkF m 12 #[.val (.ref t0), .val (.double sw), .second, .val (.double on), .second, .val (.long op), .second, .val (.double ob1), .second, .unset, .unset, .unset, .unset, .unset, .unset] [(.ref t0), (.double (FP.l2d op))])) rfl (by rw [hml]; rfl) (Steps.refl _) (argsL := []) (rest := [(.double (FP.l2d op))]) (lenOf pd_0 rfl) rfl (by show 2 * 0 + _ ≤ _; exact Nat.le_of_eq rfl) (hb hby d4_12) (fun _ _ => ⟨rfl, e1, (by decide : 0 + 0 ≤ _), (by decide : 0 + 0 ≤ _)⟩)
  dsimp only [Pt.U, Pt.locs, Pt.cells, Pt.slots] at X2 l2 y2 z2 st2 hQ2
  subst l2 y2 z2
  obtain ⟨rfl, N2q, eh2⟩ := hQ2
  have N2 := Fr.app N1 N2q
  have e2 : T2.heap = h0 := eh2
  obtain ⟨T3, X3, e3, st3⟩ := getF X2 hx hZ hown (host := "") (Or.inl (hw _ (List.mem_of_getElem? (i := 27) rfl))) Via.refl e2 F_count_t0 (g := (mkF m 20 #[.val (.ref t0), .val (.double sw), .second, .val (.double on), .second, .val (.long op), .second, .val (.double ob1), .second, .val (.double pb1), .second, .unset, .unset, .unset, .unset] [(.ref t0), (.ref t0)])) rfl rfl (hb hby d4_20)
  obtain ⟨T4, h4, X4, e4, W4, st4⟩ := putF X3 hx hZ hown (host := "") (Or.inl (hw _ (List.mem_of_getElem? (i := 27) rfl))) Via.refl e3 F_count_t0 E_t0 (Or.inl (hw _ (List.mem_of_getElem? (i := 28) rfl))) (hw _ (List.mem_of_getElem? (i := 1) rfl)) (ty := .long) (by decide) rfl rfl (g := (mkF m 25 #[.val (.ref t0), .val (.double sw), .second, .val (.double on), .second, .val (.long op), .second, .val (.double ob1), .second, .val (.double pb1), .second, .unset, .unset, .unset, .unset] [(.long (1 : Int64)), (.ref t0)])) rfl rfl (hb hby d4_25)
  have f5 := E_t0.wr W4
  have f6 := F_weight_t0.other W4 (Or.inr (so_SequenceStatistics_weight_count hw))
  have f7 := F_sumOnline_t0.other W4 (Or.inr (so_SequenceStatistics_sumOnline_count hw))
  have f8 := F_sumOptimum_t0.other W4 (Or.inr (so_SequenceStatistics_sumOptimum_count hw))
  have f9 := F_comomentOnline_t0.other W4 (Or.inr (so_SequenceStatistics_comomentOnline_count hw))
  have f10 := F_comomentOptimum_t0.other W4 (Or.inr (so_SequenceStatistics_comomentOptimum_count hw))
  have f11 := F_comomentBoth_t0.other W4 (Or.inr (so_SequenceStatistics_comomentBoth_count hw))
  have f12 := F_positiveWeight_t0.other W4 (Or.inr (so_SequenceStatistics_positiveWeight_count hw))
  have f13 := F_weightedRatios_t0.other W4 (Or.inr (so_SequenceStatistics_weightedRatios_count hw))
  have f14 := F_zeroWeight_t0.other W4 (Or.inr (so_SequenceStatistics_zeroWeight_count hw))
  have K4 : Keep h0 h4 [t0] := (Keep.refl h0 [t0]).wr W4 (Or.inl (List.mem_of_getElem? (i := 0) rfl))
  have Zs4 := Nat.le_trans Z0 (Keep.of_wr W4).1
  have N4 := Fr.snoc X4 N2 g_t0
  have f15 : Fld Z h4 t0 "com/example/arrivals/arrivals/core/SequenceStatistics" "count" "J" (.long (1 : Int64)) := F_count_t0.same W4
  obtain ⟨T16, X16, e16, st16⟩ := getF X4 hx hZ hown (host := "") (Or.inl (hw _ (List.mem_of_getElem? (i := 34) rfl))) Via.refl e4 f6 (g := (mkF m 30 #[.val (.ref t0), .val (.double sw), .second, .val (.double on), .second, .val (.long op), .second, .val (.double ob1), .second, .val (.double pb1), .second, .unset, .unset, .unset, .unset] [(.ref t0), (.ref t0)])) rfl rfl (hb hby d4_30)
  obtain ⟨T17, h17, X17, e17, W17, st17⟩ := putF X16 hx hZ hown (host := "") (Or.inl (hw _ (List.mem_of_getElem? (i := 34) rfl))) Via.refl e16 f6 f5 (Or.inl (hw _ (List.mem_of_getElem? (i := 35) rfl))) (hw _ (List.mem_of_getElem? (i := 1) rfl)) (ty := .double) (by decide) rfl rfl (g := (mkF m 35 #[.val (.ref t0), .val (.double sw), .second, .val (.double on), .second, .val (.long op), .second, .val (.double ob1), .second, .val (.double pb1), .second, .unset, .unset, .unset, .unset] [(.double w1), (.ref t0)])) rfl rfl (hb hby d4_35)
  have f18 := f5.wr W17
  have f19 := f15.other W17 (Or.inr (so_SequenceStatistics_count_weight hw))
  have f20 := f7.other W17 (Or.inr (so_SequenceStatistics_sumOnline_weight hw))
  have f21 := f8.other W17 (Or.inr (so_SequenceStatistics_sumOptimum_weight hw))
  have f22 := f9.other W17 (Or.inr (so_SequenceStatistics_comomentOnline_weight hw))
  have f23 := f10.other W17 (Or.inr (so_SequenceStatistics_comomentOptimum_weight hw))
  have f24 := f11.other W17 (Or.inr (so_SequenceStatistics_comomentBoth_weight hw))
  have f25 := f12.other W17 (Or.inr (so_SequenceStatistics_positiveWeight_weight hw))
  have f26 := f13.other W17 (Or.inr (so_SequenceStatistics_weightedRatios_weight hw))
  have f27 := f14.other W17 (Or.inr (so_SequenceStatistics_zeroWeight_weight hw))
  have K17 : Keep h0 h17 [t0] := K4.wr W17 (Or.inl (List.mem_of_getElem? (i := 0) rfl))
  have Zs17 := Nat.le_trans Zs4 (Keep.of_wr W17).1
  have N17 := Fr.snoc X17 N4 g_t0
  have f28 : Fld Z h17 t0 "com/example/arrivals/arrivals/core/SequenceStatistics" "weight" "D" (.double w1) := f6.same W17
  obtain ⟨T29, X29, e29, st29⟩ := getF X17 hx hZ hown (host := "") (Or.inl (hw _ (List.mem_of_getElem? (i := 36) rfl))) Via.refl e17 f20 (g := (mkF m 40 #[.val (.ref t0), .val (.double sw), .second, .val (.double on), .second, .val (.long op), .second, .val (.double ob1), .second, .val (.double pb1), .second, .unset, .unset, .unset, .unset] [(.ref t0), (.ref t0)])) rfl rfl (hb hby d4_40)
  obtain ⟨T30, h30, X30, e30, W30, st30⟩ := putF X29 hx hZ hown (host := "") (Or.inl (hw _ (List.mem_of_getElem? (i := 36) rfl))) Via.refl e29 f20 f18 (Or.inl (hw _ (List.mem_of_getElem? (i := 37) rfl))) (hw _ (List.mem_of_getElem? (i := 1) rfl)) (ty := .double) (by decide) rfl rfl (g := (mkF m 47 #[.val (.ref t0), .val (.double sw), .second, .val (.double on), .second, .val (.long op), .second, .val (.double ob1), .second, .val (.double pb1), .second, .unset, .unset, .unset, .unset] [(.double so1), (.ref t0)])) rfl rfl (hb hby d4_47)
  have f31 := f18.wr W30
  have f32 := f19.other W30 (Or.inr (so_SequenceStatistics_count_sumOnline hw))
  have f33 := f28.other W30 (Or.inr (so_SequenceStatistics_weight_sumOnline hw))
  have f34 := f21.other W30 (Or.inr (so_SequenceStatistics_sumOptimum_sumOnline hw))
  have f35 := f22.other W30 (Or.inr (so_SequenceStatistics_comomentOnline_sumOnline hw))
  have f36 := f23.other W30 (Or.inr (so_SequenceStatistics_comomentOptimum_sumOnline hw))
  have f37 := f24.other W30 (Or.inr (so_SequenceStatistics_comomentBoth_sumOnline hw))
  have f38 := f25.other W30 (Or.inr (so_SequenceStatistics_positiveWeight_sumOnline hw))
  have f39 := f26.other W30 (Or.inr (so_SequenceStatistics_weightedRatios_sumOnline hw))
  have f40 := f27.other W30 (Or.inr (so_SequenceStatistics_zeroWeight_sumOnline hw))
  have K30 : Keep h0 h30 [t0] := K17.wr W30 (Or.inl (List.mem_of_getElem? (i := 0) rfl))
  have Zs30 := Nat.le_trans Zs17 (Keep.of_wr W30).1
  have N30 := Fr.snoc X30 N17 g_t0
  have f41 : Fld Z h30 t0 "com/example/arrivals/arrivals/core/SequenceStatistics" "sumOnline" "D" (.double so1) := f20.same W30
  obtain ⟨T42, X42, e42, st42⟩ := getF X30 hx hZ hown (host := "") (Or.inl (hw _ (List.mem_of_getElem? (i := 38) rfl))) Via.refl e30 f34 (g := (mkF m 52 #[.val (.ref t0), .val (.double sw), .second, .val (.double on), .second, .val (.long op), .second, .val (.double ob1), .second, .val (.double pb1), .second, .unset, .unset, .unset, .unset] [(.ref t0), (.ref t0)])) rfl rfl (hb hby d4_52)
  obtain ⟨T43, h43, X43, e43, W43, st43⟩ := putF X42 hx hZ hown (host := "") (Or.inl (hw _ (List.mem_of_getElem? (i := 38) rfl))) Via.refl e42 f34 f31 (Or.inl (hw _ (List.mem_of_getElem? (i := 39) rfl))) (hw _ (List.mem_of_getElem? (i := 1) rfl)) (ty := .double) (by decide) rfl rfl (g := (mkF m 61 #[.val (.ref t0), .val (.double sw), .second, .val (.double on), .second, .val (.long op), .second, .val (.double ob1), .second, .val (.double pb1), .second, .unset, .unset, .unset, .unset] [(.double sp1), (.ref t0)])) rfl rfl (hb hby d4_61)
  have f44 := f31.wr W43
  have f45 := f32.other W43 (Or.inr (so_SequenceStatistics_count_sumOptimum hw))
  have f46 := f33.other W43 (Or.inr (so_SequenceStatistics_weight_sumOptimum hw))
  have f47 := f41.other W43 (Or.inr (so_SequenceStatistics_sumOnline_sumOptimum hw))
  have f48 := f35.other W43 (Or.inr (so_SequenceStatistics_comomentOnline_sumOptimum hw))
  have f49 := f36.other W43 (Or.inr (so_SequenceStatistics_comomentOptimum_sumOptimum hw))
  have f50 := f37.other W43 (Or.inr (so_SequenceStatistics_comomentBoth_sumOptimum hw))
  have f51 := f38.other W43 (Or.inr (so_SequenceStatistics_positiveWeight_sumOptimum hw))
  have f52 := f39.other W43 (Or.inr (so_SequenceStatistics_weightedRatios_sumOptimum hw))
  have f53 := f40.other W43 (Or.inr (so_SequenceStatistics_zeroWeight_sumOptimum hw))
  have K43 : Keep h0 h43 [t0] := K30.wr W43 (Or.inl (List.mem_of_getElem? (i := 0) rfl))
  have Zs43 := Nat.le_trans Zs30 (Keep.of_wr W43).1
  have N43 := Fr.snoc X43 N30 g_t0
  have f54 : Fld Z h43 t0 "com/example/arrivals/arrivals/core/SequenceStatistics" "sumOptimum" "D" (.double sp1) := f34.same W43
  obtain ⟨cq55, kq55, q55a, q55b, q55c⟩ := isOf hZ e43 f44
  obtain ⟨_, _, ⟨T55, L55, k55, n55⟩, -, X55, ⟨Lc55, hQ55, l55, y55, z55⟩, st55⟩ := X43.virtualBack hx (y := (⟨"com/example/arrivals/arrivals/core/SequenceStatistics", "meanOnline", "()D"⟩ : MethodName)) (z := (⟨"com/example/arrivals/arrivals/core/SequenceStatistics", "meanOnline", "()D"⟩ : MethodName)) hown (mvT hZ (hw _ (List.mem_of_getElem? (i := 22) rfl))) (mvT hZ (hw _ (List.mem_of_getElem? (i := 23) rfl))) (notFace_of_selects (args := #[]) (mvT hZ (hw _ (List.mem_of_getElem? (i := 25) rfl)))) (mvT hZ (hw _ (List.mem_of_getElem? (i := 25) rfl))) (mvT hZ (hw _ (List.mem_of_getElem? (i := 24) rfl))) (by decide) (backOf (W := 2) (rm5_1 l Z a0 hw [] t0 w1 so1 h43 n0 Zs43 f45 f47 f46 nn21_66) hZ (hw _ (List.mem_of_getElem? (i := 26) rfl)) (hw _ (List.mem_of_getElem? (i := 2) rfl)) (by decide) (by decide)) q55a q55c (g := (mkF m 66 #[.val (.ref t0), .val (.double sw), .second, .val (.double on), .second, .val (.long op), .second, .val (.double ob1), .second, .val (.double pb1), .second, .unset, .unset, .unset, .unset] [(.ref t0), (.double on)])) rfl (by rw [hml]; rfl) (Steps.refl _) (argsL := []) (rest := [(.double on)]) (lenOf pd_0 rfl) rfl (by show 2 * 0 + _ ≤ _; exact Nat.le_of_eq rfl) (hb hby d4_66) (fun _ _ => ⟨rfl, e43, (by decide : 0 + 0 ≤ _), (by decide : 0 + 0 ≤ _)⟩)
  dsimp only [Pt.U, Pt.locs, Pt.cells, Pt.slots] at X55 l55 y55 z55 st55 hQ55
  subst l55 y55 z55
  obtain ⟨rfl, N55q, eh55⟩ := hQ55
  have N55 := Fr.app N43 N55q
  have e55 : T55.heap = h43 := eh55
  obtain ⟨cq56, kq56, q56a, q56b, q56c⟩ := isOf hZ e55 f44
  obtain ⟨_, _, ⟨T56, L56, k56, n56⟩, -, X56, ⟨Lc56, hQ56, l56, y56, z56⟩, st56⟩ := X55.virtualBack hx (y := (⟨"com/example/arrivals/arrivals/core/SequenceStatistics", "meanOptimum", "()D"⟩ : MethodName)) (z := (⟨"com/example/arrivals/arrivals/core/SequenceStatistics", "meanOptimum", "()D"⟩ : MethodName)) hown (mvT hZ (hw _ (List.mem_of_getElem? (i := 29) rfl))) (mvT hZ (hw _ (List.mem_of_getElem? (i := 30) rfl))) (notFace_of_selects (args := #[]) (mvT hZ (hw _ (List.mem_of_getElem? (i := 32) rfl)))) (mvT hZ (hw _ (List.mem_of_getElem? (i := 32) rfl))) (mvT hZ (hw _ (List.mem_of_getElem? (i := 31) rfl))) (by decide) (backOf (W := 2) (rm6_1 l Z a0 hw [] t0 w1 sp1 h43 n0 Zs43 f45 f54 f46 nn21_76) hZ (hw _ (List.mem_of_getElem? (i := 33) rfl)) (hw _ (List.mem_of_getElem? (i := 2) rfl)) (by decide) (by decide)) q56a q56c (g := (mkF m 76 #[.val (.ref t0), .val (.double sw), .second, .val (.double on), .second, .val (.long op), .second, .val (.double ob1), .second, .val (.double pb1), .second, .val (.double oa1), .second, .unset, .unset] [(.ref t0), (.double (FP.l2d op))])) rfl (by rw [hml]; rfl) (Steps.refl _) (argsL := []) (rest := [(.double (FP.l2d op))]) (lenOf pd_0 rfl) rfl (by show 2 * 0 + _ ≤ _; exact Nat.le_of_eq rfl) (hb hby d4_76) (fun _ _ => ⟨rfl, e55, (by decide : 0 + 0 ≤ _), (by decide : 0 + 0 ≤ _)⟩)
  dsimp only [Pt.U, Pt.locs, Pt.cells, Pt.slots] at X56 l56 y56 z56 st56 hQ56
  subst l56 y56 z56
  obtain ⟨rfl, N56q, eh56⟩ := hQ56
  have N56 := Fr.app N55 N56q
  have e56 : T56.heap = h43 := eh56
  obtain ⟨T57, X57, e57, st57⟩ := getF X56 hx hZ hown (host := "") (Or.inl (hw _ (List.mem_of_getElem? (i := 40) rfl))) Via.refl e56 f48 (g := (mkF m 84 #[.val (.ref t0), .val (.double sw), .second, .val (.double on), .second, .val (.long op), .second, .val (.double ob1), .second, .val (.double pb1), .second, .val (.double oa1), .second, .val (.double pa1), .second] [(.ref t0), (.ref t0)])) rfl rfl (hb hby d4_84)
  obtain ⟨T58, h58, X58, e58, W58, st58⟩ := putF X57 hx hZ hown (host := "") (Or.inl (hw _ (List.mem_of_getElem? (i := 40) rfl))) Via.refl e57 f48 f44 (Or.inl (hw _ (List.mem_of_getElem? (i := 41) rfl))) (hw _ (List.mem_of_getElem? (i := 1) rfl)) (ty := .double) (by decide) rfl rfl (g := (mkF m 95 #[.val (.ref t0), .val (.double sw), .second, .val (.double on), .second, .val (.long op), .second, .val (.double ob1), .second, .val (.double pb1), .second, .val (.double oa1), .second, .val (.double pa1), .second] [(.double ma1), (.ref t0)])) rfl rfl (hb hby d4_95)
  have f59 := f44.wr W58
  have f60 := f45.other W58 (Or.inr (so_SequenceStatistics_count_comomentOnline hw))
  have f61 := f46.other W58 (Or.inr (so_SequenceStatistics_weight_comomentOnline hw))
  have f62 := f47.other W58 (Or.inr (so_SequenceStatistics_sumOnline_comomentOnline hw))
  have f63 := f54.other W58 (Or.inr (so_SequenceStatistics_sumOptimum_comomentOnline hw))
  have f64 := f49.other W58 (Or.inr (so_SequenceStatistics_comomentOptimum_comomentOnline hw))
  have f65 := f50.other W58 (Or.inr (so_SequenceStatistics_comomentBoth_comomentOnline hw))
  have f66 := f51.other W58 (Or.inr (so_SequenceStatistics_positiveWeight_comomentOnline hw))
  have f67 := f52.other W58 (Or.inr (so_SequenceStatistics_weightedRatios_comomentOnline hw))
  have f68 := f53.other W58 (Or.inr (so_SequenceStatistics_zeroWeight_comomentOnline hw))
  have K58 : Keep h0 h58 [t0] := K43.wr W58 (Or.inl (List.mem_of_getElem? (i := 0) rfl))
  have Zs58 := Nat.le_trans Zs43 (Keep.of_wr W58).1
  have N58 := Fr.snoc X58 N56 g_t0
  have f69 : Fld Z h58 t0 "com/example/arrivals/arrivals/core/SequenceStatistics" "comomentOnline" "D" (.double ma1) := f48.same W58
  obtain ⟨T70, X70, e70, st70⟩ := getF X58 hx hZ hown (host := "") (Or.inl (hw _ (List.mem_of_getElem? (i := 42) rfl))) Via.refl e58 f64 (g := (mkF m 100 #[.val (.ref t0), .val (.double sw), .second, .val (.double on), .second, .val (.long op), .second, .val (.double ob1), .second, .val (.double pb1), .second, .val (.double oa1), .second, .val (.double pa1), .second] [(.ref t0), (.ref t0)])) rfl rfl (hb hby d4_100)
  obtain ⟨T71, h71, X71, e71, W71, st71⟩ := putF X70 hx hZ hown (host := "") (Or.inl (hw _ (List.mem_of_getElem? (i := 42) rfl))) Via.refl e70 f64 f59 (Or.inl (hw _ (List.mem_of_getElem? (i := 43) rfl))) (hw _ (List.mem_of_getElem? (i := 1) rfl)) (ty := .double) (by decide) rfl rfl (g := (mkF m 111 #[.val (.ref t0), .val (.double sw), .second, .val (.double on), .second, .val (.long op), .second, .val (.double ob1), .second, .val (.double pb1), .second, .val (.double oa1), .second, .val (.double pa1), .second] [(.double mb1), (.ref t0)])) rfl rfl (hb hby d4_111)
  have f72 := f59.wr W71
  have f73 := f60.other W71 (Or.inr (so_SequenceStatistics_count_comomentOptimum hw))
  have f74 := f61.other W71 (Or.inr (so_SequenceStatistics_weight_comomentOptimum hw))
  have f75 := f62.other W71 (Or.inr (so_SequenceStatistics_sumOnline_comomentOptimum hw))
  have f76 := f63.other W71 (Or.inr (so_SequenceStatistics_sumOptimum_comomentOptimum hw))
  have f77 := f69.other W71 (Or.inr (so_SequenceStatistics_comomentOnline_comomentOptimum hw))
  have f78 := f65.other W71 (Or.inr (so_SequenceStatistics_comomentBoth_comomentOptimum hw))
  have f79 := f66.other W71 (Or.inr (so_SequenceStatistics_positiveWeight_comomentOptimum hw))
  have f80 := f67.other W71 (Or.inr (so_SequenceStatistics_weightedRatios_comomentOptimum hw))
  have f81 := f68.other W71 (Or.inr (so_SequenceStatistics_zeroWeight_comomentOptimum hw))
  have K71 : Keep h0 h71 [t0] := K58.wr W71 (Or.inl (List.mem_of_getElem? (i := 0) rfl))
  have Zs71 := Nat.le_trans Zs58 (Keep.of_wr W71).1
  have N71 := Fr.snoc X71 N58 g_t0
  have f82 : Fld Z h71 t0 "com/example/arrivals/arrivals/core/SequenceStatistics" "comomentOptimum" "D" (.double mb1) := f64.same W71
  obtain ⟨T83, X83, e83, st83⟩ := getF X71 hx hZ hown (host := "") (Or.inl (hw _ (List.mem_of_getElem? (i := 44) rfl))) Via.refl e71 f78 (g := (mkF m 116 #[.val (.ref t0), .val (.double sw), .second, .val (.double on), .second, .val (.long op), .second, .val (.double ob1), .second, .val (.double pb1), .second, .val (.double oa1), .second, .val (.double pa1), .second] [(.ref t0), (.ref t0)])) rfl rfl (hb hby d4_116)
  obtain ⟨T84, h84, X84, e84, W84, st84⟩ := putF X83 hx hZ hown (host := "") (Or.inl (hw _ (List.mem_of_getElem? (i := 44) rfl))) Via.refl e83 f78 f72 (Or.inl (hw _ (List.mem_of_getElem? (i := 45) rfl))) (hw _ (List.mem_of_getElem? (i := 1) rfl)) (ty := .double) (by decide) rfl rfl (g := (mkF m 127 #[.val (.ref t0), .val (.double sw), .second, .val (.double on), .second, .val (.long op), .second, .val (.double ob1), .second, .val (.double pb1), .second, .val (.double oa1), .second, .val (.double pa1), .second] [(.double mc1), (.ref t0)])) rfl rfl (hb hby d4_127)
  have f85 := f72.wr W84
  have f86 := f73.other W84 (Or.inr (so_SequenceStatistics_count_comomentBoth hw))
  have f87 := f74.other W84 (Or.inr (so_SequenceStatistics_weight_comomentBoth hw))
  have f88 := f75.other W84 (Or.inr (so_SequenceStatistics_sumOnline_comomentBoth hw))
  have f89 := f76.other W84 (Or.inr (so_SequenceStatistics_sumOptimum_comomentBoth hw))
  have f90 := f77.other W84 (Or.inr (so_SequenceStatistics_comomentOnline_comomentBoth hw))
  have f91 := f82.other W84 (Or.inr (so_SequenceStatistics_comomentOptimum_comomentBoth hw))
  have f92 := f79.other W84 (Or.inr (so_SequenceStatistics_positiveWeight_comomentBoth hw))
  have f93 := f80.other W84 (Or.inr (so_SequenceStatistics_weightedRatios_comomentBoth hw))
  have f94 := f81.other W84 (Or.inr (so_SequenceStatistics_zeroWeight_comomentBoth hw))
  have K84 : Keep h0 h84 [t0] := K71.wr W84 (Or.inl (List.mem_of_getElem? (i := 0) rfl))
  have Zs84 := Nat.le_trans Zs71 (Keep.of_wr W84).1
  have N84 := Fr.snoc X84 N71 g_t0
  have f95 : Fld Z h84 t0 "com/example/arrivals/arrivals/core/SequenceStatistics" "comomentBoth" "D" (.double mc1) := f78.same W84
  obtain ⟨T96, X96, e96, st96⟩ := getF X84 hx hZ hown (host := "") (Or.inl (hw _ (List.mem_of_getElem? (i := 14) rfl))) Via.refl e84 f92 (g := (mkF m 139 #[.val (.ref t0), .val (.double sw), .second, .val (.double on), .second, .val (.long op), .second, .val (.double ob1), .second, .val (.double pb1), .second, .val (.double oa1), .second, .val (.double pa1), .second] [(.ref t0), (.ref t0)])) rfl rfl (hb hby d4_139)
  obtain ⟨T97, h97, X97, e97, W97, st97⟩ := putF X96 hx hZ hown (host := "") (Or.inl (hw _ (List.mem_of_getElem? (i := 14) rfl))) Via.refl e96 f92 f85 (Or.inl (hw _ (List.mem_of_getElem? (i := 15) rfl))) (hw _ (List.mem_of_getElem? (i := 1) rfl)) (ty := .double) (by decide) rfl rfl (g := (mkF m 144 #[.val (.ref t0), .val (.double sw), .second, .val (.double on), .second, .val (.long op), .second, .val (.double ob1), .second, .val (.double pb1), .second, .val (.double oa1), .second, .val (.double pa1), .second] [(.double pw1), (.ref t0)])) rfl rfl (hb hby d4_144)
  have f98 := f85.wr W97
  have f99 := f86.other W97 (Or.inr (so_SequenceStatistics_count_positiveWeight hw))
  have f100 := f87.other W97 (Or.inr (so_SequenceStatistics_weight_positiveWeight hw))
  have f101 := f88.other W97 (Or.inr (so_SequenceStatistics_sumOnline_positiveWeight hw))
  have f102 := f89.other W97 (Or.inr (so_SequenceStatistics_sumOptimum_positiveWeight hw))
  have f103 := f90.other W97 (Or.inr (so_SequenceStatistics_comomentOnline_positiveWeight hw))
  have f104 := f91.other W97 (Or.inr (so_SequenceStatistics_comomentOptimum_positiveWeight hw))
  have f105 := f95.other W97 (Or.inr (so_SequenceStatistics_comomentBoth_positiveWeight hw))
  have f106 := f93.other W97 (Or.inr (so_SequenceStatistics_weightedRatios_positiveWeight hw))
  have f107 := f94.other W97 (Or.inr (so_SequenceStatistics_zeroWeight_positiveWeight hw))
  have K97 : Keep h0 h97 [t0] := K84.wr W97 (Or.inl (List.mem_of_getElem? (i := 0) rfl))
  have Zs97 := Nat.le_trans Zs84 (Keep.of_wr W97).1
  have N97 := Fr.snoc X97 N84 g_t0
  have f108 : Fld Z h97 t0 "com/example/arrivals/arrivals/core/SequenceStatistics" "positiveWeight" "D" (.double pw1) := f92.same W97
  obtain ⟨T109, X109, e109, st109⟩ := getF X97 hx hZ hown (host := "") (Or.inl (hw _ (List.mem_of_getElem? (i := 48) rfl))) Via.refl e97 f106 (g := (mkF m 149 #[.val (.ref t0), .val (.double sw), .second, .val (.double on), .second, .val (.long op), .second, .val (.double ob1), .second, .val (.double pb1), .second, .val (.double oa1), .second, .val (.double pa1), .second] [(.ref t0), (.ref t0)])) rfl rfl (hb hby d4_149)
  obtain ⟨T110, h110, X110, e110, W110, st110⟩ := putF X109 hx hZ hown (host := "") (Or.inl (hw _ (List.mem_of_getElem? (i := 48) rfl))) Via.refl e109 f106 f98 (Or.inl (hw _ (List.mem_of_getElem? (i := 49) rfl))) (hw _ (List.mem_of_getElem? (i := 1) rfl)) (ty := .double) (by decide) rfl rfl (g := (mkF m 160 #[.val (.ref t0), .val (.double sw), .second, .val (.double on), .second, .val (.long op), .second, .val (.double ob1), .second, .val (.double pb1), .second, .val (.double oa1), .second, .val (.double pa1), .second] [(.double wr1), (.ref t0)])) rfl rfl (hb hby d4_160)
  have f111 := f98.wr W110
  have f112 := f99.other W110 (Or.inr (so_SequenceStatistics_count_weightedRatios hw))
  have f113 := f100.other W110 (Or.inr (so_SequenceStatistics_weight_weightedRatios hw))
  have f114 := f101.other W110 (Or.inr (so_SequenceStatistics_sumOnline_weightedRatios hw))
  have f115 := f102.other W110 (Or.inr (so_SequenceStatistics_sumOptimum_weightedRatios hw))
  have f116 := f103.other W110 (Or.inr (so_SequenceStatistics_comomentOnline_weightedRatios hw))
  have f117 := f104.other W110 (Or.inr (so_SequenceStatistics_comomentOptimum_weightedRatios hw))
  have f118 := f105.other W110 (Or.inr (so_SequenceStatistics_comomentBoth_weightedRatios hw))
  have f119 := f108.other W110 (Or.inr (so_SequenceStatistics_positiveWeight_weightedRatios hw))
  have f120 := f107.other W110 (Or.inr (so_SequenceStatistics_zeroWeight_weightedRatios hw))
  have K110 : Keep h0 h110 [t0] := K97.wr W110 (Or.inl (List.mem_of_getElem? (i := 0) rfl))
  have Zs110 := Nat.le_trans Zs97 (Keep.of_wr W110).1
  have N110 := Fr.snoc X110 N97 g_t0
  have f121 : Fld Z h110 t0 "com/example/arrivals/arrivals/core/SequenceStatistics" "weightedRatios" "D" (.double wr1) := f106.same W110
  obtain ⟨fs, hr, hrun, hended, hW, hsame⟩ := X110.leave (v := none) (fun _ => rfl)
  refine ⟨_, _, pre0 _ ?_, hrun, hended, _, _, rfl, ?_, ⟨_, rfl⟩, hW, hsame.mono (by decide) (by decide)⟩
  · show Steps p.tables e below (s₁.setTop (mkF m 0 #[.val (.ref t0), .val (.double sw), .second, .val (.double on), .second, .val (.long op), .second, .unset, .unset, .unset, .unset, .unset, .unset, .unset, .unset] [])) _
    refine XS.dloadN X0.here hx rfl (hb hby d4_0) rfl ?_
    show Steps p.tables e below (s₁.setTop (mkF m 1 #[.val (.ref t0), .val (.double sw), .second, .val (.double on), .second, .val (.long op), .second, .unset, .unset, .unset, .unset, .unset, .unset, .unset, .unset] [(.double on)])) _
    refine XS.aloadN X0.here hx rfl (hb hby d4_1) rfl rfl ?_
    show Steps p.tables e below (s₁.setTop (mkF m 2 #[.val (.ref t0), .val (.double sw), .second, .val (.double on), .second, .val (.long op), .second, .unset, .unset, .unset, .unset, .unset, .unset, .unset, .unset] [(.ref t0), (.double on)])) _
    refine st1.trans ?_
    show Steps p.tables e below (T1.setTop (mkF m 5 #[.val (.ref t0), .val (.double sw), .second, .val (.double on), .second, .val (.long op), .second, .unset, .unset, .unset, .unset, .unset, .unset, .unset, .unset] [(.double (0 : UInt64)), (.double on)])) _
    refine XS.dsubS X1.here hx rfl (hb hby d4_5) rfl nn5 (v := ob1) hq5 ?_
    show Steps p.tables e below (T1.setTop (mkF m 6 #[.val (.ref t0), .val (.double sw), .second, .val (.double on), .second, .val (.long op), .second, .unset, .unset, .unset, .unset, .unset, .unset, .unset, .unset] [(.double ob1)])) _
    refine XS.dstore X1.here hx rfl (hb hby d4_6) rfl (l' := #[.val (.ref t0), .val (.double sw), .second, .val (.double on), .second, .val (.long op), .second, .val (.double ob1), .second, .unset, .unset, .unset, .unset, .unset, .unset]) rfl ?_
    show Steps p.tables e below (T1.setTop (mkF m 8 #[.val (.ref t0), .val (.double sw), .second, .val (.double on), .second, .val (.long op), .second, .val (.double ob1), .second, .unset, .unset, .unset, .unset, .unset, .unset] [])) _
    refine XS.lload X1.here hx rfl (hb hby d4_8) rfl ?_
    show Steps p.tables e below (T1.setTop (mkF m 10 #[.val (.ref t0), .val (.double sw), .second, .val (.double on), .second, .val (.long op), .second, .val (.double ob1), .second, .unset, .unset, .unset, .unset, .unset, .unset] [(.long op)])) _
    refine XS.l2dS X1.here hx rfl (hb hby d4_10) rfl (v := (FP.l2d op)) rfl ?_
    show Steps p.tables e below (T1.setTop (mkF m 11 #[.val (.ref t0), .val (.double sw), .second, .val (.double on), .second, .val (.long op), .second, .val (.double ob1), .second, .unset, .unset, .unset, .unset, .unset, .unset] [(.double (FP.l2d op))])) _
    refine XS.aloadN X1.here hx rfl (hb hby d4_11) rfl rfl ?_
    show Steps p.tables e below (T1.setTop (mkF m 12 #[.val (.ref t0), .val (.double sw), .second, .val (.double on), .second, .val (.long op), .second, .val (.double ob1), .second, .unset, .unset, .unset, .unset, .unset, .unset] [(.ref t0), (.double (FP.l2d op))])) _
    refine st2.trans ?_
    show Steps p.tables e below (T2.setTop (mkF m 15 #[.val (.ref t0), .val (.double sw), .second, .val (.double on), .second, .val (.long op), .second, .val (.double ob1), .second, .unset, .unset, .unset, .unset, .unset, .unset] [(.double (0 : UInt64)), (.double (FP.l2d op))])) _
    refine XS.dsubS X2.here hx rfl (hb hby d4_15) rfl nn15 (v := pb1) hq15 ?_
    show Steps p.tables e below (T2.setTop (mkF m 16 #[.val (.ref t0), .val (.double sw), .second, .val (.double on), .second, .val (.long op), .second, .val (.double ob1), .second, .unset, .unset, .unset, .unset, .unset, .unset] [(.double pb1)])) _
    refine XS.dstore X2.here hx rfl (hb hby d4_16) rfl (l' := #[.val (.ref t0), .val (.double sw), .second, .val (.double on), .second, .val (.long op), .second, .val (.double ob1), .second, .val (.double pb1), .second, .unset, .unset, .unset, .unset]) rfl ?_
    show Steps p.tables e below (T2.setTop (mkF m 18 #[.val (.ref t0), .val (.double sw), .second, .val (.double on), .second, .val (.long op), .second, .val (.double ob1), .second, .val (.double pb1), .second, .unset, .unset, .unset, .unset] [])) _
    refine XS.aloadN X2.here hx rfl (hb hby d4_18) rfl rfl ?_
    show Steps p.tables e below (T2.setTop (mkF m 19 #[.val (.ref t0), .val (.double sw), .second, .val (.double on), .second, .val (.long op), .second, .val (.double ob1), .second, .val (.double pb1), .second, .unset, .unset, .unset, .unset] [(.ref t0)])) _
    refine XS.dup X2.here hx rfl (hb hby d4_19) rfl rfl ?_
    show Steps p.tables e below (T2.setTop (mkF m 20 #[.val (.ref t0), .val (.double sw), .second, .val (.double on), .second, .val (.long op), .second, .val (.double ob1), .second, .val (.double pb1), .second, .unset, .unset, .unset, .unset] [(.ref t0), (.ref t0)])) _
    refine st3 _ ?_
    show Steps p.tables e below (T3.setTop (mkF m 23 #[.val (.ref t0), .val (.double sw), .second, .val (.double on), .second, .val (.long op), .second, .val (.double ob1), .second, .val (.double pb1), .second, .unset, .unset, .unset, .unset] [(.long (0 : Int64)), (.ref t0)])) _
    refine XS.lconst X3.here hx rfl (hb hby d4_23) ?_
    show Steps p.tables e below (T3.setTop (mkF m 24 #[.val (.ref t0), .val (.double sw), .second, .val (.double on), .second, .val (.long op), .second, .val (.double ob1), .second, .val (.double pb1), .second, .unset, .unset, .unset, .unset] [(.long (1 : Int64)), (.long (0 : Int64)), (.ref t0)])) _
    refine XS.ladd X3.here hx rfl (hb hby d4_24) rfl ?_
    show Steps p.tables e below (T3.setTop (mkF m 25 #[.val (.ref t0), .val (.double sw), .second, .val (.double on), .second, .val (.long op), .second, .val (.double ob1), .second, .val (.double pb1), .second, .unset, .unset, .unset, .unset] [(.long ((0 : Int64) + (1 : Int64))), (.ref t0)])) _
    rw [show ((0 : Int64) + (1 : Int64)) = (1 : Int64) by decide]
    show Steps p.tables e below (T3.setTop (mkF m 25 #[.val (.ref t0), .val (.double sw), .second, .val (.double on), .second, .val (.long op), .second, .val (.double ob1), .second, .val (.double pb1), .second, .unset, .unset, .unset, .unset] [(.long (1 : Int64)), (.ref t0)])) _
    refine st4 _ ?_
    show Steps p.tables e below (T4.setTop (mkF m 28 #[.val (.ref t0), .val (.double sw), .second, .val (.double on), .second, .val (.long op), .second, .val (.double ob1), .second, .val (.double pb1), .second, .unset, .unset, .unset, .unset] [])) _
    refine XS.aloadN X4.here hx rfl (hb hby d4_28) rfl rfl ?_
    show Steps p.tables e below (T4.setTop (mkF m 29 #[.val (.ref t0), .val (.double sw), .second, .val (.double on), .second, .val (.long op), .second, .val (.double ob1), .second, .val (.double pb1), .second, .unset, .unset, .unset, .unset] [(.ref t0)])) _
    refine XS.dup X4.here hx rfl (hb hby d4_29) rfl rfl ?_
    show Steps p.tables e below (T4.setTop (mkF m 30 #[.val (.ref t0), .val (.double sw), .second, .val (.double on), .second, .val (.long op), .second, .val (.double ob1), .second, .val (.double pb1), .second, .unset, .unset, .unset, .unset] [(.ref t0), (.ref t0)])) _
    refine st16 _ ?_
    show Steps p.tables e below (T16.setTop (mkF m 33 #[.val (.ref t0), .val (.double sw), .second, .val (.double on), .second, .val (.long op), .second, .val (.double ob1), .second, .val (.double pb1), .second, .unset, .unset, .unset, .unset] [(.double (0 : UInt64)), (.ref t0)])) _
    refine XS.dloadN X16.here hx rfl (hb hby d4_33) rfl ?_
    show Steps p.tables e below (T16.setTop (mkF m 34 #[.val (.ref t0), .val (.double sw), .second, .val (.double on), .second, .val (.long op), .second, .val (.double ob1), .second, .val (.double pb1), .second, .unset, .unset, .unset, .unset] [(.double sw), (.double (0 : UInt64)), (.ref t0)])) _
    refine XS.daddS X16.here hx rfl (hb hby d4_34) rfl nn34 (v := w1) hq34 ?_
    show Steps p.tables e below (T16.setTop (mkF m 35 #[.val (.ref t0), .val (.double sw), .second, .val (.double on), .second, .val (.long op), .second, .val (.double ob1), .second, .val (.double pb1), .second, .unset, .unset, .unset, .unset] [(.double w1), (.ref t0)])) _
    refine st17 _ ?_
    show Steps p.tables e below (T17.setTop (mkF m 38 #[.val (.ref t0), .val (.double sw), .second, .val (.double on), .second, .val (.long op), .second, .val (.double ob1), .second, .val (.double pb1), .second, .unset, .unset, .unset, .unset] [])) _
    refine XS.aloadN X17.here hx rfl (hb hby d4_38) rfl rfl ?_
    show Steps p.tables e below (T17.setTop (mkF m 39 #[.val (.ref t0), .val (.double sw), .second, .val (.double on), .second, .val (.long op), .second, .val (.double ob1), .second, .val (.double pb1), .second, .unset, .unset, .unset, .unset] [(.ref t0)])) _
    refine XS.dup X17.here hx rfl (hb hby d4_39) rfl rfl ?_
    show Steps p.tables e below (T17.setTop (mkF m 40 #[.val (.ref t0), .val (.double sw), .second, .val (.double on), .second, .val (.long op), .second, .val (.double ob1), .second, .val (.double pb1), .second, .unset, .unset, .unset, .unset] [(.ref t0), (.ref t0)])) _
    refine st29 _ ?_
    show Steps p.tables e below (T29.setTop (mkF m 43 #[.val (.ref t0), .val (.double sw), .second, .val (.double on), .second, .val (.long op), .second, .val (.double ob1), .second, .val (.double pb1), .second, .unset, .unset, .unset, .unset] [(.double (0 : UInt64)), (.ref t0)])) _
    refine XS.dloadN X29.here hx rfl (hb hby d4_43) rfl ?_
    show Steps p.tables e below (T29.setTop (mkF m 44 #[.val (.ref t0), .val (.double sw), .second, .val (.double on), .second, .val (.long op), .second, .val (.double ob1), .second, .val (.double pb1), .second, .unset, .unset, .unset, .unset] [(.double sw), (.double (0 : UInt64)), (.ref t0)])) _
    refine XS.dloadN X29.here hx rfl (hb hby d4_44) rfl ?_
    show Steps p.tables e below (T29.setTop (mkF m 45 #[.val (.ref t0), .val (.double sw), .second, .val (.double on), .second, .val (.long op), .second, .val (.double ob1), .second, .val (.double pb1), .second, .unset, .unset, .unset, .unset] [(.double on), (.double sw), (.double (0 : UInt64)), (.ref t0)])) _
    refine XS.dmulS X29.here hx rfl (hb hby d4_45) rfl nn45 (v := (FP.dmul sw on)) rfl ?_
    show Steps p.tables e below (T29.setTop (mkF m 46 #[.val (.ref t0), .val (.double sw), .second, .val (.double on), .second, .val (.long op), .second, .val (.double ob1), .second, .val (.double pb1), .second, .unset, .unset, .unset, .unset] [(.double (FP.dmul sw on)), (.double (0 : UInt64)), (.ref t0)])) _
    refine XS.daddS X29.here hx rfl (hb hby d4_46) rfl nn46 (v := so1) hq46 ?_
    show Steps p.tables e below (T29.setTop (mkF m 47 #[.val (.ref t0), .val (.double sw), .second, .val (.double on), .second, .val (.long op), .second, .val (.double ob1), .second, .val (.double pb1), .second, .unset, .unset, .unset, .unset] [(.double so1), (.ref t0)])) _
    refine st30 _ ?_
    show Steps p.tables e below (T30.setTop (mkF m 50 #[.val (.ref t0), .val (.double sw), .second, .val (.double on), .second, .val (.long op), .second, .val (.double ob1), .second, .val (.double pb1), .second, .unset, .unset, .unset, .unset] [])) _
    refine XS.aloadN X30.here hx rfl (hb hby d4_50) rfl rfl ?_
    show Steps p.tables e below (T30.setTop (mkF m 51 #[.val (.ref t0), .val (.double sw), .second, .val (.double on), .second, .val (.long op), .second, .val (.double ob1), .second, .val (.double pb1), .second, .unset, .unset, .unset, .unset] [(.ref t0)])) _
    refine XS.dup X30.here hx rfl (hb hby d4_51) rfl rfl ?_
    show Steps p.tables e below (T30.setTop (mkF m 52 #[.val (.ref t0), .val (.double sw), .second, .val (.double on), .second, .val (.long op), .second, .val (.double ob1), .second, .val (.double pb1), .second, .unset, .unset, .unset, .unset] [(.ref t0), (.ref t0)])) _
    refine st42 _ ?_
    show Steps p.tables e below (T42.setTop (mkF m 55 #[.val (.ref t0), .val (.double sw), .second, .val (.double on), .second, .val (.long op), .second, .val (.double ob1), .second, .val (.double pb1), .second, .unset, .unset, .unset, .unset] [(.double (0 : UInt64)), (.ref t0)])) _
    refine XS.dloadN X42.here hx rfl (hb hby d4_55) rfl ?_
    show Steps p.tables e below (T42.setTop (mkF m 56 #[.val (.ref t0), .val (.double sw), .second, .val (.double on), .second, .val (.long op), .second, .val (.double ob1), .second, .val (.double pb1), .second, .unset, .unset, .unset, .unset] [(.double sw), (.double (0 : UInt64)), (.ref t0)])) _
    refine XS.lload X42.here hx rfl (hb hby d4_56) rfl ?_
    show Steps p.tables e below (T42.setTop (mkF m 58 #[.val (.ref t0), .val (.double sw), .second, .val (.double on), .second, .val (.long op), .second, .val (.double ob1), .second, .val (.double pb1), .second, .unset, .unset, .unset, .unset] [(.long op), (.double sw), (.double (0 : UInt64)), (.ref t0)])) _
    refine XS.l2dS X42.here hx rfl (hb hby d4_58) rfl (v := (FP.l2d op)) rfl ?_
    show Steps p.tables e below (T42.setTop (mkF m 59 #[.val (.ref t0), .val (.double sw), .second, .val (.double on), .second, .val (.long op), .second, .val (.double ob1), .second, .val (.double pb1), .second, .unset, .unset, .unset, .unset] [(.double (FP.l2d op)), (.double sw), (.double (0 : UInt64)), (.ref t0)])) _
    refine XS.dmulS X42.here hx rfl (hb hby d4_59) rfl nn59 (v := (FP.dmul sw (FP.l2d op))) rfl ?_
    show Steps p.tables e below (T42.setTop (mkF m 60 #[.val (.ref t0), .val (.double sw), .second, .val (.double on), .second, .val (.long op), .second, .val (.double ob1), .second, .val (.double pb1), .second, .unset, .unset, .unset, .unset] [(.double (FP.dmul sw (FP.l2d op))), (.double (0 : UInt64)), (.ref t0)])) _
    refine XS.daddS X42.here hx rfl (hb hby d4_60) rfl nn60 (v := sp1) hq60 ?_
    show Steps p.tables e below (T42.setTop (mkF m 61 #[.val (.ref t0), .val (.double sw), .second, .val (.double on), .second, .val (.long op), .second, .val (.double ob1), .second, .val (.double pb1), .second, .unset, .unset, .unset, .unset] [(.double sp1), (.ref t0)])) _
    refine st43 _ ?_
    show Steps p.tables e below (T43.setTop (mkF m 64 #[.val (.ref t0), .val (.double sw), .second, .val (.double on), .second, .val (.long op), .second, .val (.double ob1), .second, .val (.double pb1), .second, .unset, .unset, .unset, .unset] [])) _
    refine XS.dloadN X43.here hx rfl (hb hby d4_64) rfl ?_
    show Steps p.tables e below (T43.setTop (mkF m 65 #[.val (.ref t0), .val (.double sw), .second, .val (.double on), .second, .val (.long op), .second, .val (.double ob1), .second, .val (.double pb1), .second, .unset, .unset, .unset, .unset] [(.double on)])) _
    refine XS.aloadN X43.here hx rfl (hb hby d4_65) rfl rfl ?_
    show Steps p.tables e below (T43.setTop (mkF m 66 #[.val (.ref t0), .val (.double sw), .second, .val (.double on), .second, .val (.long op), .second, .val (.double ob1), .second, .val (.double pb1), .second, .unset, .unset, .unset, .unset] [(.ref t0), (.double on)])) _
    refine st55.trans ?_
    show Steps p.tables e below (T55.setTop (mkF m 69 #[.val (.ref t0), .val (.double sw), .second, .val (.double on), .second, .val (.long op), .second, .val (.double ob1), .second, .val (.double pb1), .second, .unset, .unset, .unset, .unset] [(.double (FP.ddiv so1 w1)), (.double on)])) _
    refine XS.dsubS X55.here hx rfl (hb hby d4_69) rfl nn69 (v := oa1) hq69 ?_
    show Steps p.tables e below (T55.setTop (mkF m 70 #[.val (.ref t0), .val (.double sw), .second, .val (.double on), .second, .val (.long op), .second, .val (.double ob1), .second, .val (.double pb1), .second, .unset, .unset, .unset, .unset] [(.double oa1)])) _
    refine XS.dstore X55.here hx rfl (hb hby d4_70) rfl (l' := #[.val (.ref t0), .val (.double sw), .second, .val (.double on), .second, .val (.long op), .second, .val (.double ob1), .second, .val (.double pb1), .second, .val (.double oa1), .second, .unset, .unset]) rfl ?_
    show Steps p.tables e below (T55.setTop (mkF m 72 #[.val (.ref t0), .val (.double sw), .second, .val (.double on), .second, .val (.long op), .second, .val (.double ob1), .second, .val (.double pb1), .second, .val (.double oa1), .second, .unset, .unset] [])) _
    refine XS.lload X55.here hx rfl (hb hby d4_72) rfl ?_
    show Steps p.tables e below (T55.setTop (mkF m 74 #[.val (.ref t0), .val (.double sw), .second, .val (.double on), .second, .val (.long op), .second, .val (.double ob1), .second, .val (.double pb1), .second, .val (.double oa1), .second, .unset, .unset] [(.long op)])) _
    refine XS.l2dS X55.here hx rfl (hb hby d4_74) rfl (v := (FP.l2d op)) rfl ?_
    show Steps p.tables e below (T55.setTop (mkF m 75 #[.val (.ref t0), .val (.double sw), .second, .val (.double on), .second, .val (.long op), .second, .val (.double ob1), .second, .val (.double pb1), .second, .val (.double oa1), .second, .unset, .unset] [(.double (FP.l2d op))])) _
    refine XS.aloadN X55.here hx rfl (hb hby d4_75) rfl rfl ?_
    show Steps p.tables e below (T55.setTop (mkF m 76 #[.val (.ref t0), .val (.double sw), .second, .val (.double on), .second, .val (.long op), .second, .val (.double ob1), .second, .val (.double pb1), .second, .val (.double oa1), .second, .unset, .unset] [(.ref t0), (.double (FP.l2d op))])) _
    refine st56.trans ?_
    show Steps p.tables e below (T56.setTop (mkF m 79 #[.val (.ref t0), .val (.double sw), .second, .val (.double on), .second, .val (.long op), .second, .val (.double ob1), .second, .val (.double pb1), .second, .val (.double oa1), .second, .unset, .unset] [(.double (FP.ddiv sp1 w1)), (.double (FP.l2d op))])) _
    refine XS.dsubS X56.here hx rfl (hb hby d4_79) rfl nn79 (v := pa1) hq79 ?_
    show Steps p.tables e below (T56.setTop (mkF m 80 #[.val (.ref t0), .val (.double sw), .second, .val (.double on), .second, .val (.long op), .second, .val (.double ob1), .second, .val (.double pb1), .second, .val (.double oa1), .second, .unset, .unset] [(.double pa1)])) _
    refine XS.dstore X56.here hx rfl (hb hby d4_80) rfl (l' := #[.val (.ref t0), .val (.double sw), .second, .val (.double on), .second, .val (.long op), .second, .val (.double ob1), .second, .val (.double pb1), .second, .val (.double oa1), .second, .val (.double pa1), .second]) rfl ?_
    show Steps p.tables e below (T56.setTop (mkF m 82 #[.val (.ref t0), .val (.double sw), .second, .val (.double on), .second, .val (.long op), .second, .val (.double ob1), .second, .val (.double pb1), .second, .val (.double oa1), .second, .val (.double pa1), .second] [])) _
    refine XS.aloadN X56.here hx rfl (hb hby d4_82) rfl rfl ?_
    show Steps p.tables e below (T56.setTop (mkF m 83 #[.val (.ref t0), .val (.double sw), .second, .val (.double on), .second, .val (.long op), .second, .val (.double ob1), .second, .val (.double pb1), .second, .val (.double oa1), .second, .val (.double pa1), .second] [(.ref t0)])) _
    refine XS.dup X56.here hx rfl (hb hby d4_83) rfl rfl ?_
    show Steps p.tables e below (T56.setTop (mkF m 84 #[.val (.ref t0), .val (.double sw), .second, .val (.double on), .second, .val (.long op), .second, .val (.double ob1), .second, .val (.double pb1), .second, .val (.double oa1), .second, .val (.double pa1), .second] [(.ref t0), (.ref t0)])) _
    refine st57 _ ?_
    show Steps p.tables e below (T57.setTop (mkF m 87 #[.val (.ref t0), .val (.double sw), .second, .val (.double on), .second, .val (.long op), .second, .val (.double ob1), .second, .val (.double pb1), .second, .val (.double oa1), .second, .val (.double pa1), .second] [(.double (0 : UInt64)), (.ref t0)])) _
    refine XS.dloadN X57.here hx rfl (hb hby d4_87) rfl ?_
    show Steps p.tables e below (T57.setTop (mkF m 88 #[.val (.ref t0), .val (.double sw), .second, .val (.double on), .second, .val (.long op), .second, .val (.double ob1), .second, .val (.double pb1), .second, .val (.double oa1), .second, .val (.double pa1), .second] [(.double sw), (.double (0 : UInt64)), (.ref t0)])) _
    refine XS.dload X57.here hx rfl (hb hby d4_88) rfl ?_
    show Steps p.tables e below (T57.setTop (mkF m 90 #[.val (.ref t0), .val (.double sw), .second, .val (.double on), .second, .val (.long op), .second, .val (.double ob1), .second, .val (.double pb1), .second, .val (.double oa1), .second, .val (.double pa1), .second] [(.double ob1), (.double sw), (.double (0 : UInt64)), (.ref t0)])) _
    refine XS.dmulS X57.here hx rfl (hb hby d4_90) rfl nn90 (v := (FP.dmul sw ob1)) rfl ?_
    show Steps p.tables e below (T57.setTop (mkF m 91 #[.val (.ref t0), .val (.double sw), .second, .val (.double on), .second, .val (.long op), .second, .val (.double ob1), .second, .val (.double pb1), .second, .val (.double oa1), .second, .val (.double pa1), .second] [(.double (FP.dmul sw ob1)), (.double (0 : UInt64)), (.ref t0)])) _
    refine XS.dload X57.here hx rfl (hb hby d4_91) rfl ?_
    show Steps p.tables e below (T57.setTop (mkF m 93 #[.val (.ref t0), .val (.double sw), .second, .val (.double on), .second, .val (.long op), .second, .val (.double ob1), .second, .val (.double pb1), .second, .val (.double oa1), .second, .val (.double pa1), .second] [(.double oa1), (.double (FP.dmul sw ob1)), (.double (0 : UInt64)), (.ref t0)])) _
    refine XS.dmulS X57.here hx rfl (hb hby d4_93) rfl nn93 (v := (FP.dmul (FP.dmul sw ob1) oa1)) rfl ?_
    show Steps p.tables e below (T57.setTop (mkF m 94 #[.val (.ref t0), .val (.double sw), .second, .val (.double on), .second, .val (.long op), .second, .val (.double ob1), .second, .val (.double pb1), .second, .val (.double oa1), .second, .val (.double pa1), .second] [(.double (FP.dmul (FP.dmul sw ob1) oa1)), (.double (0 : UInt64)), (.ref t0)])) _
    refine XS.daddS X57.here hx rfl (hb hby d4_94) rfl nn94 (v := ma1) hq94 ?_
    show Steps p.tables e below (T57.setTop (mkF m 95 #[.val (.ref t0), .val (.double sw), .second, .val (.double on), .second, .val (.long op), .second, .val (.double ob1), .second, .val (.double pb1), .second, .val (.double oa1), .second, .val (.double pa1), .second] [(.double ma1), (.ref t0)])) _
    refine st58 _ ?_
    show Steps p.tables e below (T58.setTop (mkF m 98 #[.val (.ref t0), .val (.double sw), .second, .val (.double on), .second, .val (.long op), .second, .val (.double ob1), .second, .val (.double pb1), .second, .val (.double oa1), .second, .val (.double pa1), .second] [])) _
    refine XS.aloadN X58.here hx rfl (hb hby d4_98) rfl rfl ?_
    show Steps p.tables e below (T58.setTop (mkF m 99 #[.val (.ref t0), .val (.double sw), .second, .val (.double on), .second, .val (.long op), .second, .val (.double ob1), .second, .val (.double pb1), .second, .val (.double oa1), .second, .val (.double pa1), .second] [(.ref t0)])) _
    refine XS.dup X58.here hx rfl (hb hby d4_99) rfl rfl ?_
    show Steps p.tables e below (T58.setTop (mkF m 100 #[.val (.ref t0), .val (.double sw), .second, .val (.double on), .second, .val (.long op), .second, .val (.double ob1), .second, .val (.double pb1), .second, .val (.double oa1), .second, .val (.double pa1), .second] [(.ref t0), (.ref t0)])) _
    refine st70 _ ?_
    show Steps p.tables e below (T70.setTop (mkF m 103 #[.val (.ref t0), .val (.double sw), .second, .val (.double on), .second, .val (.long op), .second, .val (.double ob1), .second, .val (.double pb1), .second, .val (.double oa1), .second, .val (.double pa1), .second] [(.double (0 : UInt64)), (.ref t0)])) _
    refine XS.dloadN X70.here hx rfl (hb hby d4_103) rfl ?_
    show Steps p.tables e below (T70.setTop (mkF m 104 #[.val (.ref t0), .val (.double sw), .second, .val (.double on), .second, .val (.long op), .second, .val (.double ob1), .second, .val (.double pb1), .second, .val (.double oa1), .second, .val (.double pa1), .second] [(.double sw), (.double (0 : UInt64)), (.ref t0)])) _
    refine XS.dload X70.here hx rfl (hb hby d4_104) rfl ?_
    show Steps p.tables e below (T70.setTop (mkF m 106 #[.val (.ref t0), .val (.double sw), .second, .val (.double on), .second, .val (.long op), .second, .val (.double ob1), .second, .val (.double pb1), .second, .val (.double oa1), .second, .val (.double pa1), .second] [(.double pb1), (.double sw), (.double (0 : UInt64)), (.ref t0)])) _
    refine XS.dmulS X70.here hx rfl (hb hby d4_106) rfl nn106 (v := (FP.dmul sw pb1)) rfl ?_
    show Steps p.tables e below (T70.setTop (mkF m 107 #[.val (.ref t0), .val (.double sw), .second, .val (.double on), .second, .val (.long op), .second, .val (.double ob1), .second, .val (.double pb1), .second, .val (.double oa1), .second, .val (.double pa1), .second] [(.double (FP.dmul sw pb1)), (.double (0 : UInt64)), (.ref t0)])) _
    refine XS.dload X70.here hx rfl (hb hby d4_107) rfl ?_
    show Steps p.tables e below (T70.setTop (mkF m 109 #[.val (.ref t0), .val (.double sw), .second, .val (.double on), .second, .val (.long op), .second, .val (.double ob1), .second, .val (.double pb1), .second, .val (.double oa1), .second, .val (.double pa1), .second] [(.double pa1), (.double (FP.dmul sw pb1)), (.double (0 : UInt64)), (.ref t0)])) _
    refine XS.dmulS X70.here hx rfl (hb hby d4_109) rfl nn109 (v := (FP.dmul (FP.dmul sw pb1) pa1)) rfl ?_
    show Steps p.tables e below (T70.setTop (mkF m 110 #[.val (.ref t0), .val (.double sw), .second, .val (.double on), .second, .val (.long op), .second, .val (.double ob1), .second, .val (.double pb1), .second, .val (.double oa1), .second, .val (.double pa1), .second] [(.double (FP.dmul (FP.dmul sw pb1) pa1)), (.double (0 : UInt64)), (.ref t0)])) _
    refine XS.daddS X70.here hx rfl (hb hby d4_110) rfl nn110 (v := mb1) hq110 ?_
    show Steps p.tables e below (T70.setTop (mkF m 111 #[.val (.ref t0), .val (.double sw), .second, .val (.double on), .second, .val (.long op), .second, .val (.double ob1), .second, .val (.double pb1), .second, .val (.double oa1), .second, .val (.double pa1), .second] [(.double mb1), (.ref t0)])) _
    refine st71 _ ?_
    show Steps p.tables e below (T71.setTop (mkF m 114 #[.val (.ref t0), .val (.double sw), .second, .val (.double on), .second, .val (.long op), .second, .val (.double ob1), .second, .val (.double pb1), .second, .val (.double oa1), .second, .val (.double pa1), .second] [])) _
    refine XS.aloadN X71.here hx rfl (hb hby d4_114) rfl rfl ?_
    show Steps p.tables e below (T71.setTop (mkF m 115 #[.val (.ref t0), .val (.double sw), .second, .val (.double on), .second, .val (.long op), .second, .val (.double ob1), .second, .val (.double pb1), .second, .val (.double oa1), .second, .val (.double pa1), .second] [(.ref t0)])) _
    refine XS.dup X71.here hx rfl (hb hby d4_115) rfl rfl ?_
    show Steps p.tables e below (T71.setTop (mkF m 116 #[.val (.ref t0), .val (.double sw), .second, .val (.double on), .second, .val (.long op), .second, .val (.double ob1), .second, .val (.double pb1), .second, .val (.double oa1), .second, .val (.double pa1), .second] [(.ref t0), (.ref t0)])) _
    refine st83 _ ?_
    show Steps p.tables e below (T83.setTop (mkF m 119 #[.val (.ref t0), .val (.double sw), .second, .val (.double on), .second, .val (.long op), .second, .val (.double ob1), .second, .val (.double pb1), .second, .val (.double oa1), .second, .val (.double pa1), .second] [(.double (0 : UInt64)), (.ref t0)])) _
    refine XS.dloadN X83.here hx rfl (hb hby d4_119) rfl ?_
    show Steps p.tables e below (T83.setTop (mkF m 120 #[.val (.ref t0), .val (.double sw), .second, .val (.double on), .second, .val (.long op), .second, .val (.double ob1), .second, .val (.double pb1), .second, .val (.double oa1), .second, .val (.double pa1), .second] [(.double sw), (.double (0 : UInt64)), (.ref t0)])) _
    refine XS.dload X83.here hx rfl (hb hby d4_120) rfl ?_
    show Steps p.tables e below (T83.setTop (mkF m 122 #[.val (.ref t0), .val (.double sw), .second, .val (.double on), .second, .val (.long op), .second, .val (.double ob1), .second, .val (.double pb1), .second, .val (.double oa1), .second, .val (.double pa1), .second] [(.double ob1), (.double sw), (.double (0 : UInt64)), (.ref t0)])) _
    refine XS.dmulS X83.here hx rfl (hb hby d4_122) rfl nn122 (v := (FP.dmul sw ob1)) rfl ?_
    show Steps p.tables e below (T83.setTop (mkF m 123 #[.val (.ref t0), .val (.double sw), .second, .val (.double on), .second, .val (.long op), .second, .val (.double ob1), .second, .val (.double pb1), .second, .val (.double oa1), .second, .val (.double pa1), .second] [(.double (FP.dmul sw ob1)), (.double (0 : UInt64)), (.ref t0)])) _
    refine XS.dload X83.here hx rfl (hb hby d4_123) rfl ?_
    show Steps p.tables e below (T83.setTop (mkF m 125 #[.val (.ref t0), .val (.double sw), .second, .val (.double on), .second, .val (.long op), .second, .val (.double ob1), .second, .val (.double pb1), .second, .val (.double oa1), .second, .val (.double pa1), .second] [(.double pa1), (.double (FP.dmul sw ob1)), (.double (0 : UInt64)), (.ref t0)])) _
    refine XS.dmulS X83.here hx rfl (hb hby d4_125) rfl nn125 (v := (FP.dmul (FP.dmul sw ob1) pa1)) rfl ?_
    show Steps p.tables e below (T83.setTop (mkF m 126 #[.val (.ref t0), .val (.double sw), .second, .val (.double on), .second, .val (.long op), .second, .val (.double ob1), .second, .val (.double pb1), .second, .val (.double oa1), .second, .val (.double pa1), .second] [(.double (FP.dmul (FP.dmul sw ob1) pa1)), (.double (0 : UInt64)), (.ref t0)])) _
    refine XS.daddS X83.here hx rfl (hb hby d4_126) rfl nn126 (v := mc1) hq126 ?_
    show Steps p.tables e below (T83.setTop (mkF m 127 #[.val (.ref t0), .val (.double sw), .second, .val (.double on), .second, .val (.long op), .second, .val (.double ob1), .second, .val (.double pb1), .second, .val (.double oa1), .second, .val (.double pa1), .second] [(.double mc1), (.ref t0)])) _
    refine st84 _ ?_
    show Steps p.tables e below (T84.setTop (mkF m 130 #[.val (.ref t0), .val (.double sw), .second, .val (.double on), .second, .val (.long op), .second, .val (.double ob1), .second, .val (.double pb1), .second, .val (.double oa1), .second, .val (.double pa1), .second] [])) _
    refine XS.lload X84.here hx rfl (hb hby d4_130) rfl ?_
    show Steps p.tables e below (T84.setTop (mkF m 132 #[.val (.ref t0), .val (.double sw), .second, .val (.double on), .second, .val (.long op), .second, .val (.double ob1), .second, .val (.double pb1), .second, .val (.double oa1), .second, .val (.double pa1), .second] [(.long op)])) _
    refine XS.lconst X84.here hx rfl (hb hby d4_132) ?_
    show Steps p.tables e below (T84.setTop (mkF m 133 #[.val (.ref t0), .val (.double sw), .second, .val (.double on), .second, .val (.long op), .second, .val (.double ob1), .second, .val (.double pb1), .second, .val (.double oa1), .second, .val (.double pa1), .second] [(.long (0 : Int64)), (.long op)])) _
    refine XS.lcmp X84.here hx rfl (hb hby d4_133) rfl ?_
    show Steps p.tables e below (T84.setTop (mkF m 134 #[.val (.ref t0), .val (.double sw), .second, .val (.double on), .second, .val (.long op), .second, .val (.double ob1), .second, .val (.double pb1), .second, .val (.double oa1), .second, .val (.double pa1), .second] [(.int (lcmpW op (0 : Int64)))])) _
    refine XS.ifNo X84.here hx rfl (hb hby d4_134) rfl ((if0 _ _).trans (tlt hc134).2.2.2) ?_
    show Steps p.tables e below (T84.setTop (mkF m 137 #[.val (.ref t0), .val (.double sw), .second, .val (.double on), .second, .val (.long op), .second, .val (.double ob1), .second, .val (.double pb1), .second, .val (.double oa1), .second, .val (.double pa1), .second] [])) _
    refine XS.aloadN X84.here hx rfl (hb hby d4_137) rfl rfl ?_
    show Steps p.tables e below (T84.setTop (mkF m 138 #[.val (.ref t0), .val (.double sw), .second, .val (.double on), .second, .val (.long op), .second, .val (.double ob1), .second, .val (.double pb1), .second, .val (.double oa1), .second, .val (.double pa1), .second] [(.ref t0)])) _
    refine XS.dup X84.here hx rfl (hb hby d4_138) rfl rfl ?_
    show Steps p.tables e below (T84.setTop (mkF m 139 #[.val (.ref t0), .val (.double sw), .second, .val (.double on), .second, .val (.long op), .second, .val (.double ob1), .second, .val (.double pb1), .second, .val (.double oa1), .second, .val (.double pa1), .second] [(.ref t0), (.ref t0)])) _
    refine st96 _ ?_
    show Steps p.tables e below (T96.setTop (mkF m 142 #[.val (.ref t0), .val (.double sw), .second, .val (.double on), .second, .val (.long op), .second, .val (.double ob1), .second, .val (.double pb1), .second, .val (.double oa1), .second, .val (.double pa1), .second] [(.double (0 : UInt64)), (.ref t0)])) _
    refine XS.dloadN X96.here hx rfl (hb hby d4_142) rfl ?_
    show Steps p.tables e below (T96.setTop (mkF m 143 #[.val (.ref t0), .val (.double sw), .second, .val (.double on), .second, .val (.long op), .second, .val (.double ob1), .second, .val (.double pb1), .second, .val (.double oa1), .second, .val (.double pa1), .second] [(.double sw), (.double (0 : UInt64)), (.ref t0)])) _
    refine XS.daddS X96.here hx rfl (hb hby d4_143) rfl nn143 (v := pw1) hq143 ?_
    show Steps p.tables e below (T96.setTop (mkF m 144 #[.val (.ref t0), .val (.double sw), .second, .val (.double on), .second, .val (.long op), .second, .val (.double ob1), .second, .val (.double pb1), .second, .val (.double oa1), .second, .val (.double pa1), .second] [(.double pw1), (.ref t0)])) _
    refine st97 _ ?_
    show Steps p.tables e below (T97.setTop (mkF m 147 #[.val (.ref t0), .val (.double sw), .second, .val (.double on), .second, .val (.long op), .second, .val (.double ob1), .second, .val (.double pb1), .second, .val (.double oa1), .second, .val (.double pa1), .second] [])) _
    refine XS.aloadN X97.here hx rfl (hb hby d4_147) rfl rfl ?_
    show Steps p.tables e below (T97.setTop (mkF m 148 #[.val (.ref t0), .val (.double sw), .second, .val (.double on), .second, .val (.long op), .second, .val (.double ob1), .second, .val (.double pb1), .second, .val (.double oa1), .second, .val (.double pa1), .second] [(.ref t0)])) _
    refine XS.dup X97.here hx rfl (hb hby d4_148) rfl rfl ?_
    show Steps p.tables e below (T97.setTop (mkF m 149 #[.val (.ref t0), .val (.double sw), .second, .val (.double on), .second, .val (.long op), .second, .val (.double ob1), .second, .val (.double pb1), .second, .val (.double oa1), .second, .val (.double pa1), .second] [(.ref t0), (.ref t0)])) _
    refine st109 _ ?_
    show Steps p.tables e below (T109.setTop (mkF m 152 #[.val (.ref t0), .val (.double sw), .second, .val (.double on), .second, .val (.long op), .second, .val (.double ob1), .second, .val (.double pb1), .second, .val (.double oa1), .second, .val (.double pa1), .second] [(.double (0 : UInt64)), (.ref t0)])) _
    refine XS.dloadN X109.here hx rfl (hb hby d4_152) rfl ?_
    show Steps p.tables e below (T109.setTop (mkF m 153 #[.val (.ref t0), .val (.double sw), .second, .val (.double on), .second, .val (.long op), .second, .val (.double ob1), .second, .val (.double pb1), .second, .val (.double oa1), .second, .val (.double pa1), .second] [(.double sw), (.double (0 : UInt64)), (.ref t0)])) _
    refine XS.dloadN X109.here hx rfl (hb hby d4_153) rfl ?_
    show Steps p.tables e below (T109.setTop (mkF m 154 #[.val (.ref t0), .val (.double sw), .second, .val (.double on), .second, .val (.long op), .second, .val (.double ob1), .second, .val (.double pb1), .second, .val (.double oa1), .second, .val (.double pa1), .second] [(.double on), (.double sw), (.double (0 : UInt64)), (.ref t0)])) _
    refine XS.lload X109.here hx rfl (hb hby d4_154) rfl ?_
    show Steps p.tables e below (T109.setTop (mkF m 156 #[.val (.ref t0), .val (.double sw), .second, .val (.double on), .second, .val (.long op), .second, .val (.double ob1), .second, .val (.double pb1), .second, .val (.double oa1), .second, .val (.double pa1), .second] [(.long op), (.double on), (.double sw), (.double (0 : UInt64)), (.ref t0)])) _
    refine XS.l2dS X109.here hx rfl (hb hby d4_156) rfl (v := (FP.l2d op)) rfl ?_
    show Steps p.tables e below (T109.setTop (mkF m 157 #[.val (.ref t0), .val (.double sw), .second, .val (.double on), .second, .val (.long op), .second, .val (.double ob1), .second, .val (.double pb1), .second, .val (.double oa1), .second, .val (.double pa1), .second] [(.double (FP.l2d op)), (.double on), (.double sw), (.double (0 : UInt64)), (.ref t0)])) _
    refine XS.ddivS X109.here hx rfl (hb hby d4_157) rfl nn157 (v := (FP.ddiv on (FP.l2d op))) rfl ?_
    show Steps p.tables e below (T109.setTop (mkF m 158 #[.val (.ref t0), .val (.double sw), .second, .val (.double on), .second, .val (.long op), .second, .val (.double ob1), .second, .val (.double pb1), .second, .val (.double oa1), .second, .val (.double pa1), .second] [(.double (FP.ddiv on (FP.l2d op))), (.double sw), (.double (0 : UInt64)), (.ref t0)])) _
    refine XS.dmulS X109.here hx rfl (hb hby d4_158) rfl nn158 (v := (FP.dmul sw (FP.ddiv on (FP.l2d op)))) rfl ?_
    show Steps p.tables e below (T109.setTop (mkF m 159 #[.val (.ref t0), .val (.double sw), .second, .val (.double on), .second, .val (.long op), .second, .val (.double ob1), .second, .val (.double pb1), .second, .val (.double oa1), .second, .val (.double pa1), .second] [(.double (FP.dmul sw (FP.ddiv on (FP.l2d op)))), (.double (0 : UInt64)), (.ref t0)])) _
    refine XS.daddS X109.here hx rfl (hb hby d4_159) rfl nn159 (v := wr1) hq159 ?_
    show Steps p.tables e below (T109.setTop (mkF m 160 #[.val (.ref t0), .val (.double sw), .second, .val (.double on), .second, .val (.long op), .second, .val (.double ob1), .second, .val (.double pb1), .second, .val (.double oa1), .second, .val (.double pa1), .second] [(.double wr1), (.ref t0)])) _
    refine st110 _ ?_
    show Steps p.tables e below (T110.setTop (mkF m 163 #[.val (.ref t0), .val (.double sw), .second, .val (.double on), .second, .val (.long op), .second, .val (.double ob1), .second, .val (.double pb1), .second, .val (.double oa1), .second, .val (.double pa1), .second] [])) _
    refine XS.goto X110.here hx rfl (pc0 := 163) (pc' := 176) rfl (hb hby d4_163) (by decide) (by decide) ?_
    show Steps p.tables e below (T110.setTop (mkF m 176 #[.val (.ref t0), .val (.double sw), .second, .val (.double on), .second, .val (.long op), .second, .val (.double ob1), .second, .val (.double pb1), .second, .val (.double oa1), .second, .val (.double pa1), .second] [])) _
    exact X110.returnOut hx Bd.returns (hb hby d4_176) hr
  · show Q_rm4_0p Z t0 sw on op ob1 pb1 w1 so1 sp1 oa1 pa1 ma1 mb1 mc1 pw1 wr1 h0 n0 _ T110.heap _
    rw [e110]
    exact ⟨rfl, N110, K110, f111, f112, f113, f114, f115, f116, f117, f118, f119, f121, f120⟩
theorem d4_166 : decode prog_26_method_2_code 166 = .ok (.aload_n 0, 1) := by decide +kernel
theorem d4_167 : decode prog_26_method_2_code 167 = .ok (.dup, 1) := by decide +kernel
theorem d4_168 : decode prog_26_method_2_code 168 = .ok (.getfield 45, 3) := by decide +kernel
theorem d4_171 : decode prog_26_method_2_code 171 = .ok (.dload_n 1, 1) := by decide +kernel
theorem d4_172 : decode prog_26_method_2_code 172 = .ok (.dadd, 1) := by decide +kernel
theorem d4_173 : decode prog_26_method_2_code 173 = .ok (.putfield 45, 3) := by decide +kernel
theorem so_SequenceStatistics_count_zeroWeight {Z : State} {a0 : Array Value} (hw : ∀ d ∈ tables_1, d.before a0 Z = true) : Jvm.RoadKit.slotOf Z "com/example/arrivals/arrivals/core/SequenceStatistics" "count" "J" ≠ Jvm.RoadKit.slotOf Z "com/example/arrivals/arrivals/core/SequenceStatistics" "zeroWeight" "D" := slot_ne (Or.inl (hw _ (List.mem_of_getElem? (i := 28) rfl))) (Or.inl (hw _ (List.mem_of_getElem? (i := 47) rfl))) (by decide) (t := .long) (t' := .double) (by decide) (by decide)
theorem so_SequenceStatistics_weight_zeroWeight {Z : State} {a0 : Array Value} (hw : ∀ d ∈ tables_1, d.before a0 Z = true) : Jvm.RoadKit.slotOf Z "com/example/arrivals/arrivals/core/SequenceStatistics" "weight" "D" ≠ Jvm.RoadKit.slotOf Z "com/example/arrivals/arrivals/core/SequenceStatistics" "zeroWeight" "D" := slot_ne (Or.inl (hw _ (List.mem_of_getElem? (i := 35) rfl))) (Or.inl (hw _ (List.mem_of_getElem? (i := 47) rfl))) (by decide) (t := .double) (t' := .double) (by decide) (by decide)
theorem so_SequenceStatistics_sumOnline_zeroWeight {Z : State} {a0 : Array Value} (hw : ∀ d ∈ tables_1, d.before a0 Z = true) : Jvm.RoadKit.slotOf Z "com/example/arrivals/arrivals/core/SequenceStatistics" "sumOnline" "D" ≠ Jvm.RoadKit.slotOf Z "com/example/arrivals/arrivals/core/SequenceStatistics" "zeroWeight" "D" := slot_ne (Or.inl (hw _ (List.mem_of_getElem? (i := 37) rfl))) (Or.inl (hw _ (List.mem_of_getElem? (i := 47) rfl))) (by decide) (t := .double) (t' := .double) (by decide) (by decide)
theorem so_SequenceStatistics_sumOptimum_zeroWeight {Z : State} {a0 : Array Value} (hw : ∀ d ∈ tables_1, d.before a0 Z = true) : Jvm.RoadKit.slotOf Z "com/example/arrivals/arrivals/core/SequenceStatistics" "sumOptimum" "D" ≠ Jvm.RoadKit.slotOf Z "com/example/arrivals/arrivals/core/SequenceStatistics" "zeroWeight" "D" := slot_ne (Or.inl (hw _ (List.mem_of_getElem? (i := 39) rfl))) (Or.inl (hw _ (List.mem_of_getElem? (i := 47) rfl))) (by decide) (t := .double) (t' := .double) (by decide) (by decide)
theorem so_SequenceStatistics_comomentOnline_zeroWeight {Z : State} {a0 : Array Value} (hw : ∀ d ∈ tables_1, d.before a0 Z = true) : Jvm.RoadKit.slotOf Z "com/example/arrivals/arrivals/core/SequenceStatistics" "comomentOnline" "D" ≠ Jvm.RoadKit.slotOf Z "com/example/arrivals/arrivals/core/SequenceStatistics" "zeroWeight" "D" := slot_ne (Or.inl (hw _ (List.mem_of_getElem? (i := 41) rfl))) (Or.inl (hw _ (List.mem_of_getElem? (i := 47) rfl))) (by decide) (t := .double) (t' := .double) (by decide) (by decide)
theorem so_SequenceStatistics_comomentOptimum_zeroWeight {Z : State} {a0 : Array Value} (hw : ∀ d ∈ tables_1, d.before a0 Z = true) : Jvm.RoadKit.slotOf Z "com/example/arrivals/arrivals/core/SequenceStatistics" "comomentOptimum" "D" ≠ Jvm.RoadKit.slotOf Z "com/example/arrivals/arrivals/core/SequenceStatistics" "zeroWeight" "D" := slot_ne (Or.inl (hw _ (List.mem_of_getElem? (i := 43) rfl))) (Or.inl (hw _ (List.mem_of_getElem? (i := 47) rfl))) (by decide) (t := .double) (t' := .double) (by decide) (by decide)
theorem so_SequenceStatistics_comomentBoth_zeroWeight {Z : State} {a0 : Array Value} (hw : ∀ d ∈ tables_1, d.before a0 Z = true) : Jvm.RoadKit.slotOf Z "com/example/arrivals/arrivals/core/SequenceStatistics" "comomentBoth" "D" ≠ Jvm.RoadKit.slotOf Z "com/example/arrivals/arrivals/core/SequenceStatistics" "zeroWeight" "D" := slot_ne (Or.inl (hw _ (List.mem_of_getElem? (i := 45) rfl))) (Or.inl (hw _ (List.mem_of_getElem? (i := 47) rfl))) (by decide) (t := .double) (t' := .double) (by decide) (by decide)
theorem so_SequenceStatistics_positiveWeight_zeroWeight {Z : State} {a0 : Array Value} (hw : ∀ d ∈ tables_1, d.before a0 Z = true) : Jvm.RoadKit.slotOf Z "com/example/arrivals/arrivals/core/SequenceStatistics" "positiveWeight" "D" ≠ Jvm.RoadKit.slotOf Z "com/example/arrivals/arrivals/core/SequenceStatistics" "zeroWeight" "D" := slot_ne (Or.inl (hw _ (List.mem_of_getElem? (i := 15) rfl))) (Or.inl (hw _ (List.mem_of_getElem? (i := 47) rfl))) (by decide) (t := .double) (t' := .double) (by decide) (by decide)
theorem so_SequenceStatistics_weightedRatios_zeroWeight {Z : State} {a0 : Array Value} (hw : ∀ d ∈ tables_1, d.before a0 Z = true) : Jvm.RoadKit.slotOf Z "com/example/arrivals/arrivals/core/SequenceStatistics" "weightedRatios" "D" ≠ Jvm.RoadKit.slotOf Z "com/example/arrivals/arrivals/core/SequenceStatistics" "zeroWeight" "D" := slot_ne (Or.inl (hw _ (List.mem_of_getElem? (i := 49) rfl))) (Or.inl (hw _ (List.mem_of_getElem? (i := 47) rfl))) (by decide) (t := .double) (t' := .double) (by decide) (by decide)
def Q_rm4_0z (Z : State) (t0 : Addr) (sw : UInt64) (on : UInt64) (op : Int64) (ob1 : UInt64) (pb1 : UInt64) (w1 : UInt64) (so1 : UInt64) (sp1 : UInt64) (oa1 : UInt64) (pa1 : UInt64) (ma1 : UInt64) (mb1 : UInt64) (mc1 : UInt64) (zw1 : UInt64) (h0 : Heap) (n0 : Nat) (v : Option Value) (h : Heap) (L : List Loc) : Prop := v = none ∧ Fr n0 L ∧ Keep h0 h [t0] ∧ Exa Z h t0 "com/example/arrivals/arrivals/core/SequenceStatistics" ∧ Fld Z h t0 "com/example/arrivals/arrivals/core/SequenceStatistics" "count" "J" (.long (1 : Int64)) ∧ Fld Z h t0 "com/example/arrivals/arrivals/core/SequenceStatistics" "weight" "D" (.double w1) ∧ Fld Z h t0 "com/example/arrivals/arrivals/core/SequenceStatistics" "sumOnline" "D" (.double so1) ∧ Fld Z h t0 "com/example/arrivals/arrivals/core/SequenceStatistics" "sumOptimum" "D" (.double sp1) ∧ Fld Z h t0 "com/example/arrivals/arrivals/core/SequenceStatistics" "comomentOnline" "D" (.double ma1) ∧ Fld Z h t0 "com/example/arrivals/arrivals/core/SequenceStatistics" "comomentOptimum" "D" (.double mb1) ∧ Fld Z h t0 "com/example/arrivals/arrivals/core/SequenceStatistics" "comomentBoth" "D" (.double mc1) ∧ Fld Z h t0 "com/example/arrivals/arrivals/core/SequenceStatistics" "positiveWeight" "D" (.double (0 : UInt64)) ∧ Fld Z h t0 "com/example/arrivals/arrivals/core/SequenceStatistics" "weightedRatios" "D" (.double (0 : UInt64)) ∧ Fld Z h t0 "com/example/arrivals/arrivals/core/SequenceStatistics" "zeroWeight" "D" (.double zw1)
set_option maxRecDepth 65536 in
set_option maxHeartbeats 40000000 in
theorem rm4_0z (l : Launch) (Z : State) (a0 : Array Value) (hw : ∀ d ∈ tables_1, d.before a0 Z = true) (ws : List Jvm.Cond) (t0 : Addr) (sw : UInt64) (on : UInt64) (op : Int64) (ob1 : UInt64) (pb1 : UInt64) (w1 : UInt64) (so1 : UInt64) (sp1 : UInt64) (oa1 : UInt64) (pa1 : UInt64) (ma1 : UInt64) (mb1 : UInt64) (mc1 : UInt64) (zw1 : UInt64) (h0 : Heap) (n0 : Nat) (Z0 : n0 ≤ h0.size) (E_t0 : Exa Z h0 t0 "com/example/arrivals/arrivals/core/SequenceStatistics") (g_t0 : n0 ≤ t0) (F_count_t0 : Fld Z h0 t0 "com/example/arrivals/arrivals/core/SequenceStatistics" "count" "J" (.long (0 : Int64))) (F_weight_t0 : Fld Z h0 t0 "com/example/arrivals/arrivals/core/SequenceStatistics" "weight" "D" (.double (0 : UInt64))) (F_sumOnline_t0 : Fld Z h0 t0 "com/example/arrivals/arrivals/core/SequenceStatistics" "sumOnline" "D" (.double (0 : UInt64))) (F_sumOptimum_t0 : Fld Z h0 t0 "com/example/arrivals/arrivals/core/SequenceStatistics" "sumOptimum" "D" (.double (0 : UInt64))) (F_comomentOnline_t0 : Fld Z h0 t0 "com/example/arrivals/arrivals/core/SequenceStatistics" "comomentOnline" "D" (.double (0 : UInt64))) (F_comomentOptimum_t0 : Fld Z h0 t0 "com/example/arrivals/arrivals/core/SequenceStatistics" "comomentOptimum" "D" (.double (0 : UInt64))) (F_comomentBoth_t0 : Fld Z h0 t0 "com/example/arrivals/arrivals/core/SequenceStatistics" "comomentBoth" "D" (.double (0 : UInt64))) (F_positiveWeight_t0 : Fld Z h0 t0 "com/example/arrivals/arrivals/core/SequenceStatistics" "positiveWeight" "D" (.double (0 : UInt64))) (F_weightedRatios_t0 : Fld Z h0 t0 "com/example/arrivals/arrivals/core/SequenceStatistics" "weightedRatios" "D" (.double (0 : UInt64))) (F_zeroWeight_t0 : Fld Z h0 t0 "com/example/arrivals/arrivals/core/SequenceStatistics" "zeroWeight" "D" (.double (0 : UInt64))) (nn5 : Jvm.Free.Fl.NoNaN64 (FP.dsub on (0 : UInt64))) (hq5 : (FP.dsub on (0 : UInt64)) = ob1) (nn15 : Jvm.Free.Fl.NoNaN64 (FP.dsub (FP.l2d op) (0 : UInt64))) (hq15 : (FP.dsub (FP.l2d op) (0 : UInt64)) = pb1) (nn34 : Jvm.Free.Fl.NoNaN64 (FP.dadd (0 : UInt64) sw)) (hq34 : (FP.dadd (0 : UInt64) sw) = w1) (nn45 : Jvm.Free.Fl.NoNaN64 (FP.dmul sw on)) (nn46 : Jvm.Free.Fl.NoNaN64 (FP.dadd (0 : UInt64) (FP.dmul sw on))) (hq46 : (FP.dadd (0 : UInt64) (FP.dmul sw on)) = so1) (nn59 : Jvm.Free.Fl.NoNaN64 (FP.dmul sw (FP.l2d op))) (nn60 : Jvm.Free.Fl.NoNaN64 (FP.dadd (0 : UInt64) (FP.dmul sw (FP.l2d op)))) (hq60 : (FP.dadd (0 : UInt64) (FP.dmul sw (FP.l2d op))) = sp1) (nn21_66 : Jvm.Free.Fl.NoNaN64 (FP.ddiv so1 w1)) (nn69 : Jvm.Free.Fl.NoNaN64 (FP.dsub on (FP.ddiv so1 w1))) (hq69 : (FP.dsub on (FP.ddiv so1 w1)) = oa1) (nn21_76 : Jvm.Free.Fl.NoNaN64 (FP.ddiv sp1 w1)) (nn79 : Jvm.Free.Fl.NoNaN64 (FP.dsub (FP.l2d op) (FP.ddiv sp1 w1))) (hq79 : (FP.dsub (FP.l2d op) (FP.ddiv sp1 w1)) = pa1) (nn90 : Jvm.Free.Fl.NoNaN64 (FP.dmul sw ob1)) (nn93 : Jvm.Free.Fl.NoNaN64 (FP.dmul (FP.dmul sw ob1) oa1)) (nn94 : Jvm.Free.Fl.NoNaN64 (FP.dadd (0 : UInt64) (FP.dmul (FP.dmul sw ob1) oa1))) (hq94 : (FP.dadd (0 : UInt64) (FP.dmul (FP.dmul sw ob1) oa1)) = ma1) (nn106 : Jvm.Free.Fl.NoNaN64 (FP.dmul sw pb1)) (nn109 : Jvm.Free.Fl.NoNaN64 (FP.dmul (FP.dmul sw pb1) pa1)) (nn110 : Jvm.Free.Fl.NoNaN64 (FP.dadd (0 : UInt64) (FP.dmul (FP.dmul sw pb1) pa1))) (hq110 : (FP.dadd (0 : UInt64) (FP.dmul (FP.dmul sw pb1) pa1)) = mb1) (nn122 : Jvm.Free.Fl.NoNaN64 (FP.dmul sw ob1)) (nn125 : Jvm.Free.Fl.NoNaN64 (FP.dmul (FP.dmul sw ob1) pa1)) (nn126 : Jvm.Free.Fl.NoNaN64 (FP.dadd (0 : UInt64) (FP.dmul (FP.dmul sw ob1) pa1))) (hq126 : (FP.dadd (0 : UInt64) (FP.dmul (FP.dmul sw ob1) pa1)) = mc1) (hc134 : ¬ ((0 : Int32) < (lcmpW op (0 : Int64)))) (nn172 : Jvm.Free.Fl.NoNaN64 (FP.dadd (0 : UInt64) sw)) (hq172 : (FP.dadd (0 : UInt64) sw) = zw1) :
    MetFree l (⟨"com/example/arrivals/arrivals/core/SequenceStatistics", "add", "(DDJ)V"⟩ : MethodName) (head1 (Jvm.Cond.code (⟨"com/example/arrivals/arrivals/core/SequenceStatistics", "add", "(DDJ)V"⟩ : MethodName) prog_26_method_2_code 15 none :: ws) ({ frames := 1, cells := 0, slots := 0, locals := 14 } : Room)) (fun a U => a = #[(.ref t0), (.double sw), (.double on), (.long op)] ∧ Z.Warmed39 U.vm ∧ U.heap = h0) (fun _ _ _ _ _ => True) (fun _ U o U' => ∃ v L, o = .returned v ∧ Q_rm4_0z Z t0 sw on op ob1 pb1 w1 so1 sp1 oa1 pa1 ma1 mb1 mc1 zw1 h0 n0 v U'.heap L ∧ FrameEnd U o U' L ({ frames := 1, cells := 0, slots := 0, locals := 14 } : Room).cells ({ frames := 1, cells := 0, slots := 0, locals := 14 } : Room).slots) := by
  refine MetFree.of_bodySF (plainFor_of_name pn_com_example_arrivals_arrivals_core_SequenceStatistics) hisR ?_
  intro p e s m args below meth c s₁ Bd hml0 hP hK
  obtain ⟨rfl, hZ, hh⟩ := hP
  have hx := Bd.exec
  have hby := Bd.bytes
  have hml : c.maxLocals = 15 := hml0
  have hown : s.vm.findClass "com/example/arrivals/arrivals/core/SequenceStatistics" = some m.cls := findClass_of_methodNamed Bd.named
  have hnm := (name_of_methodNamed Bd.named Bd.method).1
  have X0 : Stand p l e ({ frames := 1, cells := 0, slots := 0, locals := 14 } : Room) s m #[(.ref t0), (.double sw), (.double on), (.long op)] below meth c s₁ [] 0 0 := Stand.of_body Bd
  have e0 : s₁.heap = h0 := by rw [← hh, Bd.state]; rfl
  have N0 := Fr.nil n0
  have pre0 : ∀ t, Steps p.tables e below (s₁.setTop (mkF m 0 #[.val (.ref t0), .val (.double sw), .second, .val (.double on), .second, .val (.long op), .second, .unset, .unset, .unset, .unset, .unset, .unset, .unset, .unset] [])) t → Steps p.tables e below (s₁.setTop (entryFrame m #[(.ref t0), (.double sw), (.double on), (.long op)] 15)) t := fun t k => castTop (ef_4_RDDJ m t0 sw on op) k
  obtain ⟨cq1, kq1, q1a, q1b, q1c⟩ := isOf hZ e0 E_t0
  obtain ⟨_, _, ⟨T1, L1, k1, n1⟩, -, X1, ⟨Lc1, hQ1, l1, y1, z1⟩, st1⟩ := X0.virtualBack hx (y := (⟨"com/example/arrivals/arrivals/core/SequenceStatistics", "meanOnline", "()D"⟩ : MethodName)) (z := (⟨"com/example/arrivals/arrivals/core/SequenceStatistics", "meanOnline", "()D"⟩ : MethodName)) hown (mvT hZ (hw _ (List.mem_of_getElem? (i := 22) rfl))) (mvT hZ (hw _ (List.mem_of_getElem? (i := 23) rfl))) (notFace_of_selects (args := #[]) (mvT hZ (hw _ (List.mem_of_getElem? (i := 25) rfl)))) (mvT hZ (hw _ (List.mem_of_getElem? (i := 25) rfl))) (mvT hZ (hw _ (List.mem_of_getElem? (i := 24) rfl))) (by decide) (backOf (W := 2) (rm5_0 l Z a0 hw [] t0 h0 n0 Z0 F_count_t0) hZ (hw _ (List.mem_of_getElem? (i := 26) rfl)) (hw _ (List.mem_of_getElem? (i := 2) rfl)) (by decide) (by decide)) q1a q1c (g := (mkF m 2 #[.val (.ref t0), .val (.double sw), .second, .val (.double on), .second, .val (.long op), .second, .unset, .unset, .unset, .unset, .unset, .unset, .unset, .unset] [(.ref t0), (.double on)])) rfl (by rw [hml]; rfl) (Steps.refl _) (argsL := []) (rest := [(.double on)]) (lenOf pd_0 rfl) rfl (by show 2 * 0 + _ ≤ _; exact Nat.le_of_eq rfl) (hb hby d4_2) (fun _ _ => ⟨rfl, e0, (by decide : 0 + 0 ≤ _), (by decide : 0 + 0 ≤ _)⟩)
  dsimp only [Pt.U, Pt.locs, Pt.cells, Pt.slots] at X1 l1 y1 z1 st1 hQ1
  subst l1 y1 z1
  obtain ⟨rfl, N1q, eh1⟩ := hQ1
  have N1 := Fr.app N0 N1q
  have e1 : T1.heap = h0 := eh1
  obtain ⟨cq2, kq2, q2a, q2b, q2c⟩ := isOf hZ e1 E_t0
  obtain ⟨_, _, ⟨T2, L2, k2, n2⟩, -, X2, ⟨Lc2, hQ2, l2, y2, z2⟩, st2⟩ := X1.virtualBack hx (y := (⟨"com/example/arrivals/arrivals/core/SequenceStatistics", "meanOptimum", "()D"⟩ : MethodName)) (z := (⟨"com/example/arrivals/arrivals/core/SequenceStatistics", "meanOptimum", "()D"⟩ : MethodName)) hown (mvT hZ (hw _ (List.mem_of_getElem? (i := 29) rfl))) (mvT hZ (hw _ (List.mem_of_getElem? (i := 30) rfl))) (notFace_of_selects (args := #[]) (mvT hZ (hw _ (List.mem_of_getElem? (i := 32) rfl)))) (mvT hZ (hw _ (List.mem_of_getElem? (i := 32) rfl))) (mvT hZ (hw _ (List.mem_of_getElem? (i := 31) rfl))) (by decide) (backOf (W := 2) (rm6_0 l Z a0 hw [] t0 h0 n0 Z0 F_count_t0) hZ (hw _ (List.mem_of_getElem? (i := 33) rfl)) (hw _ (List.mem_of_getElem? (i := 2) rfl)) (by decide) (by decide)) q2a q2c (g := (mkF m 12 #[.val (.ref t0), .val (.double sw), .second, .val (.double on), .second, .val (.long op), .second, .val (.double ob1), .second, .unset, .unset, .unset, .unset, .unset, .unset] [(.ref t0), (.double (FP.l2d op))])) rfl (by rw [hml]; rfl) (Steps.refl _) (argsL := []) (rest := [(.double (FP.l2d op))]) (lenOf pd_0 rfl) rfl (by show 2 * 0 + _ ≤ _; exact Nat.le_of_eq rfl) (hb hby d4_12) (fun _ _ => ⟨rfl, e1, (by decide : 0 + 0 ≤ _), (by decide : 0 + 0 ≤ _)⟩)
  dsimp only [Pt.U, Pt.locs, Pt.cells, Pt.slots] at X2 l2 y2 z2 st2 hQ2
  subst l2 y2 z2
  obtain ⟨rfl, N2q, eh2⟩ := hQ2
  have N2 := Fr.app N1 N2q
  have e2 : T2.heap = h0 := eh2
  obtain ⟨T3, X3, e3, st3⟩ := getF X2 hx hZ hown (host := "") (Or.inl (hw _ (List.mem_of_getElem? (i := 27) rfl))) Via.refl e2 F_count_t0 (g := (mkF m 20 #[.val (.ref t0), .val (.double sw), .second, .val (.double on), .second, .val (.long op), .second, .val (.double ob1), .second, .val (.double pb1), .second, .unset, .unset, .unset, .unset] [(.ref t0), (.ref t0)])) rfl rfl (hb hby d4_20)
  obtain ⟨T4, h4, X4, e4, W4, st4⟩ := putF X3 hx hZ hown (host := "") (Or.inl (hw _ (List.mem_of_getElem? (i := 27) rfl))) Via.refl e3 F_count_t0 E_t0 (Or.inl (hw _ (List.mem_of_getElem? (i := 28) rfl))) (hw _ (List.mem_of_getElem? (i := 1) rfl)) (ty := .long) (by decide) rfl rfl (g := (mkF m 25 #[.val (.ref t0), .val (.double sw), .second, .val (.double on), .second, .val (.long op), .second, .val (.double ob1), .second, .val (.double pb1), .second, .unset, .unset, .unset, .unset] [(.long (1 : Int64)), (.ref t0)])) rfl rfl (hb hby d4_25)
  have f5 := E_t0.wr W4
  have f6 := F_weight_t0.other W4 (Or.inr (so_SequenceStatistics_weight_count hw))
  have f7 := F_sumOnline_t0.other W4 (Or.inr (so_SequenceStatistics_sumOnline_count hw))
  have f8 := F_sumOptimum_t0.other W4 (Or.inr (so_SequenceStatistics_sumOptimum_count hw))
  have f9 := F_comomentOnline_t0.other W4 (Or.inr (so_SequenceStatistics_comomentOnline_count hw))
  have f10 := F_comomentOptimum_t0.other W4 (Or.inr (so_SequenceStatistics_comomentOptimum_count hw))
  have f11 := F_comomentBoth_t0.other W4 (Or.inr (so_SequenceStatistics_comomentBoth_count hw))
  have f12 := F_positiveWeight_t0.other W4 (Or.inr (so_SequenceStatistics_positiveWeight_count hw))
  have f13 := F_weightedRatios_t0.other W4 (Or.inr (so_SequenceStatistics_weightedRatios_count hw))
  have f14 := F_zeroWeight_t0.other W4 (Or.inr (so_SequenceStatistics_zeroWeight_count hw))
  have K4 : Keep h0 h4 [t0] := (Keep.refl h0 [t0]).wr W4 (Or.inl (List.mem_of_getElem? (i := 0) rfl))
  have Zs4 := Nat.le_trans Z0 (Keep.of_wr W4).1
  have N4 := Fr.snoc X4 N2 g_t0
  have f15 : Fld Z h4 t0 "com/example/arrivals/arrivals/core/SequenceStatistics" "count" "J" (.long (1 : Int64)) := F_count_t0.same W4
  obtain ⟨T16, X16, e16, st16⟩ := getF X4 hx hZ hown (host := "") (Or.inl (hw _ (List.mem_of_getElem? (i := 34) rfl))) Via.refl e4 f6 (g := (mkF m 30 #[.val (.ref t0), .val (.double sw), .second, .val (.double on), .second, .val (.long op), .second, .val (.double ob1), .second, .val (.double pb1), .second, .unset, .unset, .unset, .unset] [(.ref t0), (.ref t0)])) rfl rfl (hb hby d4_30)
  obtain ⟨T17, h17, X17, e17, W17, st17⟩ := putF X16 hx hZ hown (host := "") (Or.inl (hw _ (List.mem_of_getElem? (i := 34) rfl))) Via.refl e16 f6 f5 (Or.inl (hw _ (List.mem_of_getElem? (i := 35) rfl))) (hw _ (List.mem_of_getElem? (i := 1) rfl)) (ty := .double) (by decide) rfl rfl (g := (mkF m 35 #[.val (.ref t0), .val (.double sw), .second, .val (.double on), .second, .val (.long op), .second, .val (.double ob1), .second, .val (.double pb1), .second, .unset, .unset, .unset, .unset] [(.double w1), (.ref t0)])) rfl rfl (hb hby d4_35)
  have f18 := f5.wr W17
  have f19 := f15.other W17 (Or.inr (so_SequenceStatistics_count_weight hw))
  have f20 := f7.other W17 (Or.inr (so_SequenceStatistics_sumOnline_weight hw))
  have f21 := f8.other W17 (Or.inr (so_SequenceStatistics_sumOptimum_weight hw))
  have f22 := f9.other W17 (Or.inr (so_SequenceStatistics_comomentOnline_weight hw))
  have f23 := f10.other W17 (Or.inr (so_SequenceStatistics_comomentOptimum_weight hw))
  have f24 := f11.other W17 (Or.inr (so_SequenceStatistics_comomentBoth_weight hw))
  have f25 := f12.other W17 (Or.inr (so_SequenceStatistics_positiveWeight_weight hw))
  have f26 := f13.other W17 (Or.inr (so_SequenceStatistics_weightedRatios_weight hw))
  have f27 := f14.other W17 (Or.inr (so_SequenceStatistics_zeroWeight_weight hw))
  have K17 : Keep h0 h17 [t0] := K4.wr W17 (Or.inl (List.mem_of_getElem? (i := 0) rfl))
  have Zs17 := Nat.le_trans Zs4 (Keep.of_wr W17).1
  have N17 := Fr.snoc X17 N4 g_t0
  have f28 : Fld Z h17 t0 "com/example/arrivals/arrivals/core/SequenceStatistics" "weight" "D" (.double w1) := f6.same W17
  obtain ⟨T29, X29, e29, st29⟩ := getF X17 hx hZ hown (host := "") (Or.inl (hw _ (List.mem_of_getElem? (i := 36) rfl))) Via.refl e17 f20 (g := (mkF m 40 #[.val (.ref t0), .val (.double sw), .second, .val (.double on), .second, .val (.long op), .second, .val (.double ob1), .second, .val (.double pb1), .second, .unset, .unset, .unset, .unset] [(.ref t0), (.ref t0)])) rfl rfl (hb hby d4_40)
  obtain ⟨T30, h30, X30, e30, W30, st30⟩ := putF X29 hx hZ hown (host := "") (Or.inl (hw _ (List.mem_of_getElem? (i := 36) rfl))) Via.refl e29 f20 f18 (Or.inl (hw _ (List.mem_of_getElem? (i := 37) rfl))) (hw _ (List.mem_of_getElem? (i := 1) rfl)) (ty := .double) (by decide) rfl rfl (g := (mkF m 47 #[.val (.ref t0), .val (.double sw), .second, .val (.double on), .second, .val (.long op), .second, .val (.double ob1), .second, .val (.double pb1), .second, .unset, .unset, .unset, .unset] [(.double so1), (.ref t0)])) rfl rfl (hb hby d4_47)
  have f31 := f18.wr W30
  have f32 := f19.other W30 (Or.inr (so_SequenceStatistics_count_sumOnline hw))
  have f33 := f28.other W30 (Or.inr (so_SequenceStatistics_weight_sumOnline hw))
  have f34 := f21.other W30 (Or.inr (so_SequenceStatistics_sumOptimum_sumOnline hw))
  have f35 := f22.other W30 (Or.inr (so_SequenceStatistics_comomentOnline_sumOnline hw))
  have f36 := f23.other W30 (Or.inr (so_SequenceStatistics_comomentOptimum_sumOnline hw))
  have f37 := f24.other W30 (Or.inr (so_SequenceStatistics_comomentBoth_sumOnline hw))
  have f38 := f25.other W30 (Or.inr (so_SequenceStatistics_positiveWeight_sumOnline hw))
  have f39 := f26.other W30 (Or.inr (so_SequenceStatistics_weightedRatios_sumOnline hw))
  have f40 := f27.other W30 (Or.inr (so_SequenceStatistics_zeroWeight_sumOnline hw))
  have K30 : Keep h0 h30 [t0] := K17.wr W30 (Or.inl (List.mem_of_getElem? (i := 0) rfl))
  have Zs30 := Nat.le_trans Zs17 (Keep.of_wr W30).1
  have N30 := Fr.snoc X30 N17 g_t0
  have f41 : Fld Z h30 t0 "com/example/arrivals/arrivals/core/SequenceStatistics" "sumOnline" "D" (.double so1) := f20.same W30
  obtain ⟨T42, X42, e42, st42⟩ := getF X30 hx hZ hown (host := "") (Or.inl (hw _ (List.mem_of_getElem? (i := 38) rfl))) Via.refl e30 f34 (g := (mkF m 52 #[.val (.ref t0), .val (.double sw), .second, .val (.double on), .second, .val (.long op), .second, .val (.double ob1), .second, .val (.double pb1), .second, .unset, .unset, .unset, .unset] [(.ref t0), (.ref t0)])) rfl rfl (hb hby d4_52)
  obtain ⟨T43, h43, X43, e43, W43, st43⟩ := putF X42 hx hZ hown (host := "") (Or.inl (hw _ (List.mem_of_getElem? (i := 38) rfl))) Via.refl e42 f34 f31 (Or.inl (hw _ (List.mem_of_getElem? (i := 39) rfl))) (hw _ (List.mem_of_getElem? (i := 1) rfl)) (ty := .double) (by decide) rfl rfl (g := (mkF m 61 #[.val (.ref t0), .val (.double sw), .second, .val (.double on), .second, .val (.long op), .second, .val (.double ob1), .second, .val (.double pb1), .second, .unset, .unset, .unset, .unset] [(.double sp1), (.ref t0)])) rfl rfl (hb hby d4_61)
  have f44 := f31.wr W43
  have f45 := f32.other W43 (Or.inr (so_SequenceStatistics_count_sumOptimum hw))
  have f46 := f33.other W43 (Or.inr (so_SequenceStatistics_weight_sumOptimum hw))
  have f47 := f41.other W43 (Or.inr (so_SequenceStatistics_sumOnline_sumOptimum hw))
  have f48 := f35.other W43 (Or.inr (so_SequenceStatistics_comomentOnline_sumOptimum hw))
  have f49 := f36.other W43 (Or.inr (so_SequenceStatistics_comomentOptimum_sumOptimum hw))
  have f50 := f37.other W43 (Or.inr (so_SequenceStatistics_comomentBoth_sumOptimum hw))
  have f51 := f38.other W43 (Or.inr (so_SequenceStatistics_positiveWeight_sumOptimum hw))
  have f52 := f39.other W43 (Or.inr (so_SequenceStatistics_weightedRatios_sumOptimum hw))
  have f53 := f40.other W43 (Or.inr (so_SequenceStatistics_zeroWeight_sumOptimum hw))
  have K43 : Keep h0 h43 [t0] := K30.wr W43 (Or.inl (List.mem_of_getElem? (i := 0) rfl))
  have Zs43 := Nat.le_trans Zs30 (Keep.of_wr W43).1
  have N43 := Fr.snoc X43 N30 g_t0
  have f54 : Fld Z h43 t0 "com/example/arrivals/arrivals/core/SequenceStatistics" "sumOptimum" "D" (.double sp1) := f34.same W43
  obtain ⟨cq55, kq55, q55a, q55b, q55c⟩ := isOf hZ e43 f44
  obtain ⟨_, _, ⟨T55, L55, k55, n55⟩, -, X55, ⟨Lc55, hQ55, l55, y55, z55⟩, st55⟩ := X43.virtualBack hx (y := (⟨"com/example/arrivals/arrivals/core/SequenceStatistics", "meanOnline", "()D"⟩ : MethodName)) (z := (⟨"com/example/arrivals/arrivals/core/SequenceStatistics", "meanOnline", "()D"⟩ : MethodName)) hown (mvT hZ (hw _ (List.mem_of_getElem? (i := 22) rfl))) (mvT hZ (hw _ (List.mem_of_getElem? (i := 23) rfl))) (notFace_of_selects (args := #[]) (mvT hZ (hw _ (List.mem_of_getElem? (i := 25) rfl)))) (mvT hZ (hw _ (List.mem_of_getElem? (i := 25) rfl))) (mvT hZ (hw _ (List.mem_of_getElem? (i := 24) rfl))) (by decide) (backOf (W := 2) (rm5_1 l Z a0 hw [] t0 w1 so1 h43 n0 Zs43 f45 f47 f46 nn21_66) hZ (hw _ (List.mem_of_getElem? (i := 26) rfl)) (hw _ (List.mem_of_getElem? (i := 2) rfl)) (by decide) (by decide)) q55a q55c (g := (mkF m 66 #[.val (.ref t0), .val (.double sw), .second, .val (.double on), .second, .val (.long op), .second, .val (.double ob1), .second, .val (.double pb1), .second, .unset, .unset, .unset, .unset] [(.ref t0), (.double on)])) rfl (by rw [hml]; rfl) (Steps.refl _) (argsL := []) (rest := [(.double on)]) (lenOf pd_0 rfl) rfl (by show 2 * 0 + _ ≤ _; exact Nat.le_of_eq rfl) (hb hby d4_66) (fun _ _ => ⟨rfl, e43, (by decide : 0 + 0 ≤ _), (by decide : 0 + 0 ≤ _)⟩)
  dsimp only [Pt.U, Pt.locs, Pt.cells, Pt.slots] at X55 l55 y55 z55 st55 hQ55
  subst l55 y55 z55
  obtain ⟨rfl, N55q, eh55⟩ := hQ55
  have N55 := Fr.app N43 N55q
  have e55 : T55.heap = h43 := eh55
  obtain ⟨cq56, kq56, q56a, q56b, q56c⟩ := isOf hZ e55 f44
  obtain ⟨_, _, ⟨T56, L56, k56, n56⟩, -, X56, ⟨Lc56, hQ56, l56, y56, z56⟩, st56⟩ := X55.virtualBack hx (y := (⟨"com/example/arrivals/arrivals/core/SequenceStatistics", "meanOptimum", "()D"⟩ : MethodName)) (z := (⟨"com/example/arrivals/arrivals/core/SequenceStatistics", "meanOptimum", "()D"⟩ : MethodName)) hown (mvT hZ (hw _ (List.mem_of_getElem? (i := 29) rfl))) (mvT hZ (hw _ (List.mem_of_getElem? (i := 30) rfl))) (notFace_of_selects (args := #[]) (mvT hZ (hw _ (List.mem_of_getElem? (i := 32) rfl)))) (mvT hZ (hw _ (List.mem_of_getElem? (i := 32) rfl))) (mvT hZ (hw _ (List.mem_of_getElem? (i := 31) rfl))) (by decide) (backOf (W := 2) (rm6_1 l Z a0 hw [] t0 w1 sp1 h43 n0 Zs43 f45 f54 f46 nn21_76) hZ (hw _ (List.mem_of_getElem? (i := 33) rfl)) (hw _ (List.mem_of_getElem? (i := 2) rfl)) (by decide) (by decide)) q56a q56c (g := (mkF m 76 #[.val (.ref t0), .val (.double sw), .second, .val (.double on), .second, .val (.long op), .second, .val (.double ob1), .second, .val (.double pb1), .second, .val (.double oa1), .second, .unset, .unset] [(.ref t0), (.double (FP.l2d op))])) rfl (by rw [hml]; rfl) (Steps.refl _) (argsL := []) (rest := [(.double (FP.l2d op))]) (lenOf pd_0 rfl) rfl (by show 2 * 0 + _ ≤ _; exact Nat.le_of_eq rfl) (hb hby d4_76) (fun _ _ => ⟨rfl, e55, (by decide : 0 + 0 ≤ _), (by decide : 0 + 0 ≤ _)⟩)
  dsimp only [Pt.U, Pt.locs, Pt.cells, Pt.slots] at X56 l56 y56 z56 st56 hQ56
  subst l56 y56 z56
  obtain ⟨rfl, N56q, eh56⟩ := hQ56
  have N56 := Fr.app N55 N56q
  have e56 : T56.heap = h43 := eh56
  obtain ⟨T57, X57, e57, st57⟩ := getF X56 hx hZ hown (host := "") (Or.inl (hw _ (List.mem_of_getElem? (i := 40) rfl))) Via.refl e56 f48 (g := (mkF m 84 #[.val (.ref t0), .val (.double sw), .second, .val (.double on), .second, .val (.long op), .second, .val (.double ob1), .second, .val (.double pb1), .second, .val (.double oa1), .second, .val (.double pa1), .second] [(.ref t0), (.ref t0)])) rfl rfl (hb hby d4_84)
  obtain ⟨T58, h58, X58, e58, W58, st58⟩ := putF X57 hx hZ hown (host := "") (Or.inl (hw _ (List.mem_of_getElem? (i := 40) rfl))) Via.refl e57 f48 f44 (Or.inl (hw _ (List.mem_of_getElem? (i := 41) rfl))) (hw _ (List.mem_of_getElem? (i := 1) rfl)) (ty := .double) (by decide) rfl rfl (g := (mkF m 95 #[.val (.ref t0), .val (.double sw), .second, .val (.double on), .second, .val (.long op), .second, .val (.double ob1), .second, .val (.double pb1), .second, .val (.double oa1), .second, .val (.double pa1), .second] [(.double ma1), (.ref t0)])) rfl rfl (hb hby d4_95)
  have f59 := f44.wr W58
  have f60 := f45.other W58 (Or.inr (so_SequenceStatistics_count_comomentOnline hw))
  have f61 := f46.other W58 (Or.inr (so_SequenceStatistics_weight_comomentOnline hw))
  have f62 := f47.other W58 (Or.inr (so_SequenceStatistics_sumOnline_comomentOnline hw))
  have f63 := f54.other W58 (Or.inr (so_SequenceStatistics_sumOptimum_comomentOnline hw))
  have f64 := f49.other W58 (Or.inr (so_SequenceStatistics_comomentOptimum_comomentOnline hw))
  have f65 := f50.other W58 (Or.inr (so_SequenceStatistics_comomentBoth_comomentOnline hw))
  have f66 := f51.other W58 (Or.inr (so_SequenceStatistics_positiveWeight_comomentOnline hw))
  have f67 := f52.other W58 (Or.inr (so_SequenceStatistics_weightedRatios_comomentOnline hw))
  have f68 := f53.other W58 (Or.inr (so_SequenceStatistics_zeroWeight_comomentOnline hw))
  have K58 : Keep h0 h58 [t0] := K43.wr W58 (Or.inl (List.mem_of_getElem? (i := 0) rfl))
  have Zs58 := Nat.le_trans Zs43 (Keep.of_wr W58).1
  have N58 := Fr.snoc X58 N56 g_t0
  have f69 : Fld Z h58 t0 "com/example/arrivals/arrivals/core/SequenceStatistics" "comomentOnline" "D" (.double ma1) := f48.same W58
  obtain ⟨T70, X70, e70, st70⟩ := getF X58 hx hZ hown (host := "") (Or.inl (hw _ (List.mem_of_getElem? (i := 42) rfl))) Via.refl e58 f64 (g := (mkF m 100 #[.val (.ref t0), .val (.double sw), .second, .val (.double on), .second, .val (.long op), .second, .val (.double ob1), .second, .val (.double pb1), .second, .val (.double oa1), .second, .val (.double pa1), .second] [(.ref t0), (.ref t0)])) rfl rfl (hb hby d4_100)
  obtain ⟨T71, h71, X71, e71, W71, st71⟩ := putF X70 hx hZ hown (host := "") (Or.inl (hw _ (List.mem_of_getElem? (i := 42) rfl))) Via.refl e70 f64 f59 (Or.inl (hw _ (List.mem_of_getElem? (i := 43) rfl))) (hw _ (List.mem_of_getElem? (i := 1) rfl)) (ty := .double) (by decide) rfl rfl (g := (mkF m 111 #[.val (.ref t0), .val (.double sw), .second, .val (.double on), .second, .val (.long op), .second, .val (.double ob1), .second, .val (.double pb1), .second, .val (.double oa1), .second, .val (.double pa1), .second] [(.double mb1), (.ref t0)])) rfl rfl (hb hby d4_111)
  have f72 := f59.wr W71
  have f73 := f60.other W71 (Or.inr (so_SequenceStatistics_count_comomentOptimum hw))
  have f74 := f61.other W71 (Or.inr (so_SequenceStatistics_weight_comomentOptimum hw))
  have f75 := f62.other W71 (Or.inr (so_SequenceStatistics_sumOnline_comomentOptimum hw))
  have f76 := f63.other W71 (Or.inr (so_SequenceStatistics_sumOptimum_comomentOptimum hw))
  have f77 := f69.other W71 (Or.inr (so_SequenceStatistics_comomentOnline_comomentOptimum hw))
  have f78 := f65.other W71 (Or.inr (so_SequenceStatistics_comomentBoth_comomentOptimum hw))
  have f79 := f66.other W71 (Or.inr (so_SequenceStatistics_positiveWeight_comomentOptimum hw))
  have f80 := f67.other W71 (Or.inr (so_SequenceStatistics_weightedRatios_comomentOptimum hw))
  have f81 := f68.other W71 (Or.inr (so_SequenceStatistics_zeroWeight_comomentOptimum hw))
  have K71 : Keep h0 h71 [t0] := K58.wr W71 (Or.inl (List.mem_of_getElem? (i := 0) rfl))
  have Zs71 := Nat.le_trans Zs58 (Keep.of_wr W71).1
  have N71 := Fr.snoc X71 N58 g_t0
  have f82 : Fld Z h71 t0 "com/example/arrivals/arrivals/core/SequenceStatistics" "comomentOptimum" "D" (.double mb1) := f64.same W71
  obtain ⟨T83, X83, e83, st83⟩ := getF X71 hx hZ hown (host := "") (Or.inl (hw _ (List.mem_of_getElem? (i := 44) rfl))) Via.refl e71 f78 (g := (mkF m 116 #[.val (.ref t0), .val (.double sw), .second, .val (.double on), .second, .val (.long op), .second, .val (.double ob1), .second, .val (.double pb1), .second, .val (.double oa1), .second, .val (.double pa1), .second] [(.ref t0), (.ref t0)])) rfl rfl (hb hby d4_116)
  obtain ⟨T84, h84, X84, e84, W84, st84⟩ := putF X83 hx hZ hown (host := "") (Or.inl (hw _ (List.mem_of_getElem? (i := 44) rfl))) Via.refl e83 f78 f72 (Or.inl (hw _ (List.mem_of_getElem? (i := 45) rfl))) (hw _ (List.mem_of_getElem? (i := 1) rfl)) (ty := .double) (by decide) rfl rfl (g := (mkF m 127 #[.val (.ref t0), .val (.double sw), .second, .val (.double on), .second, .val (.long op), .second, .val (.double ob1), .second, .val (.double pb1), .second, .val (.double oa1), .second, .val (.double pa1), .second] [(.double mc1), (.ref t0)])) rfl rfl (hb hby d4_127)
  have f85 := f72.wr W84
  have f86 := f73.other W84 (Or.inr (so_SequenceStatistics_count_comomentBoth hw))
  have f87 := f74.other W84 (Or.inr (so_SequenceStatistics_weight_comomentBoth hw))
  have f88 := f75.other W84 (Or.inr (so_SequenceStatistics_sumOnline_comomentBoth hw))
  have f89 := f76.other W84 (Or.inr (so_SequenceStatistics_sumOptimum_comomentBoth hw))
  have f90 := f77.other W84 (Or.inr (so_SequenceStatistics_comomentOnline_comomentBoth hw))
  have f91 := f82.other W84 (Or.inr (so_SequenceStatistics_comomentOptimum_comomentBoth hw))
  have f92 := f79.other W84 (Or.inr (so_SequenceStatistics_positiveWeight_comomentBoth hw))
  have f93 := f80.other W84 (Or.inr (so_SequenceStatistics_weightedRatios_comomentBoth hw))
  have f94 := f81.other W84 (Or.inr (so_SequenceStatistics_zeroWeight_comomentBoth hw))
  have K84 : Keep h0 h84 [t0] := K71.wr W84 (Or.inl (List.mem_of_getElem? (i := 0) rfl))
  have Zs84 := Nat.le_trans Zs71 (Keep.of_wr W84).1
  have N84 := Fr.snoc X84 N71 g_t0
  have f95 : Fld Z h84 t0 "com/example/arrivals/arrivals/core/SequenceStatistics" "comomentBoth" "D" (.double mc1) := f78.same W84
  obtain ⟨T96, X96, e96, st96⟩ := getF X84 hx hZ hown (host := "") (Or.inl (hw _ (List.mem_of_getElem? (i := 46) rfl))) Via.refl e84 f94 (g := (mkF m 168 #[.val (.ref t0), .val (.double sw), .second, .val (.double on), .second, .val (.long op), .second, .val (.double ob1), .second, .val (.double pb1), .second, .val (.double oa1), .second, .val (.double pa1), .second] [(.ref t0), (.ref t0)])) rfl rfl (hb hby d4_168)
  obtain ⟨T97, h97, X97, e97, W97, st97⟩ := putF X96 hx hZ hown (host := "") (Or.inl (hw _ (List.mem_of_getElem? (i := 46) rfl))) Via.refl e96 f94 f85 (Or.inl (hw _ (List.mem_of_getElem? (i := 47) rfl))) (hw _ (List.mem_of_getElem? (i := 1) rfl)) (ty := .double) (by decide) rfl rfl (g := (mkF m 173 #[.val (.ref t0), .val (.double sw), .second, .val (.double on), .second, .val (.long op), .second, .val (.double ob1), .second, .val (.double pb1), .second, .val (.double oa1), .second, .val (.double pa1), .second] [(.double zw1), (.ref t0)])) rfl rfl (hb hby d4_173)
  have f98 := f85.wr W97
  have f99 := f86.other W97 (Or.inr (so_SequenceStatistics_count_zeroWeight hw))
  have f100 := f87.other W97 (Or.inr (so_SequenceStatistics_weight_zeroWeight hw))
  have f101 := f88.other W97 (Or.inr (so_SequenceStatistics_sumOnline_zeroWeight hw))
  have f102 := f89.other W97 (Or.inr (so_SequenceStatistics_sumOptimum_zeroWeight hw))
  have f103 := f90.other W97 (Or.inr (so_SequenceStatistics_comomentOnline_zeroWeight hw))
  have f104 := f91.other W97 (Or.inr (so_SequenceStatistics_comomentOptimum_zeroWeight hw))
  have f105 := f95.other W97 (Or.inr (so_SequenceStatistics_comomentBoth_zeroWeight hw))
  have f106 := f92.other W97 (Or.inr (so_SequenceStatistics_positiveWeight_zeroWeight hw))
  have f107 := f93.other W97 (Or.inr (so_SequenceStatistics_weightedRatios_zeroWeight hw))
  have K97 : Keep h0 h97 [t0] := K84.wr W97 (Or.inl (List.mem_of_getElem? (i := 0) rfl))
  have Zs97 := Nat.le_trans Zs84 (Keep.of_wr W97).1
  have N97 := Fr.snoc X97 N84 g_t0
  have f108 : Fld Z h97 t0 "com/example/arrivals/arrivals/core/SequenceStatistics" "zeroWeight" "D" (.double zw1) := f94.same W97
  obtain ⟨fs, hr, hrun, hended, hW, hsame⟩ := X97.leave (v := none) (fun _ => rfl)
  refine ⟨_, _, pre0 _ ?_, hrun, hended, _, _, rfl, ?_, ⟨_, rfl⟩, hW, hsame.mono (by decide) (by decide)⟩
  · show Steps p.tables e below (s₁.setTop (mkF m 0 #[.val (.ref t0), .val (.double sw), .second, .val (.double on), .second, .val (.long op), .second, .unset, .unset, .unset, .unset, .unset, .unset, .unset, .unset] [])) _
    refine XS.dloadN X0.here hx rfl (hb hby d4_0) rfl ?_
    show Steps p.tables e below (s₁.setTop (mkF m 1 #[.val (.ref t0), .val (.double sw), .second, .val (.double on), .second, .val (.long op), .second, .unset, .unset, .unset, .unset, .unset, .unset, .unset, .unset] [(.double on)])) _
    refine XS.aloadN X0.here hx rfl (hb hby d4_1) rfl rfl ?_
    show Steps p.tables e below (s₁.setTop (mkF m 2 #[.val (.ref t0), .val (.double sw), .second, .val (.double on), .second, .val (.long op), .second, .unset, .unset, .unset, .unset, .unset, .unset, .unset, .unset] [(.ref t0), (.double on)])) _
    refine st1.trans ?_
    show Steps p.tables e below (T1.setTop (mkF m 5 #[.val (.ref t0), .val (.double sw), .second, .val (.double on), .second, .val (.long op), .second, .unset, .unset, .unset, .unset, .unset, .unset, .unset, .unset] [(.double (0 : UInt64)), (.double on)])) _
    refine XS.dsubS X1.here hx rfl (hb hby d4_5) rfl nn5 (v := ob1) hq5 ?_
    show Steps p.tables e below (T1.setTop (mkF m 6 #[.val (.ref t0), .val (.double sw), .second, .val (.double on), .second, .val (.long op), .second, .unset, .unset, .unset, .unset, .unset, .unset, .unset, .unset] [(.double ob1)])) _
    refine XS.dstore X1.here hx rfl (hb hby d4_6) rfl (l' := #[.val (.ref t0), .val (.double sw), .second, .val (.double on), .second, .val (.long op), .second, .val (.double ob1), .second, .unset, .unset, .unset, .unset, .unset, .unset]) rfl ?_
    show Steps p.tables e below (T1.setTop (mkF m 8 #[.val (.ref t0), .val (.double sw), .second, .val (.double on), .second, .val (.long op), .second, .val (.double ob1), .second, .unset, .unset, .unset, .unset, .unset, .unset] [])) _
    refine XS.lload X1.here hx rfl (hb hby d4_8) rfl ?_
    show Steps p.tables e below (T1.setTop (mkF m 10 #[.val (.ref t0), .val (.double sw), .second, .val (.double on), .second, .val (.long op), .second, .val (.double ob1), .second, .unset, .unset, .unset, .unset, .unset, .unset] [(.long op)])) _
    refine XS.l2dS X1.here hx rfl (hb hby d4_10) rfl (v := (FP.l2d op)) rfl ?_
    show Steps p.tables e below (T1.setTop (mkF m 11 #[.val (.ref t0), .val (.double sw), .second, .val (.double on), .second, .val (.long op), .second, .val (.double ob1), .second, .unset, .unset, .unset, .unset, .unset, .unset] [(.double (FP.l2d op))])) _
    refine XS.aloadN X1.here hx rfl (hb hby d4_11) rfl rfl ?_
    show Steps p.tables e below (T1.setTop (mkF m 12 #[.val (.ref t0), .val (.double sw), .second, .val (.double on), .second, .val (.long op), .second, .val (.double ob1), .second, .unset, .unset, .unset, .unset, .unset, .unset] [(.ref t0), (.double (FP.l2d op))])) _
    refine st2.trans ?_
    show Steps p.tables e below (T2.setTop (mkF m 15 #[.val (.ref t0), .val (.double sw), .second, .val (.double on), .second, .val (.long op), .second, .val (.double ob1), .second, .unset, .unset, .unset, .unset, .unset, .unset] [(.double (0 : UInt64)), (.double (FP.l2d op))])) _
    refine XS.dsubS X2.here hx rfl (hb hby d4_15) rfl nn15 (v := pb1) hq15 ?_
    show Steps p.tables e below (T2.setTop (mkF m 16 #[.val (.ref t0), .val (.double sw), .second, .val (.double on), .second, .val (.long op), .second, .val (.double ob1), .second, .unset, .unset, .unset, .unset, .unset, .unset] [(.double pb1)])) _
    refine XS.dstore X2.here hx rfl (hb hby d4_16) rfl (l' := #[.val (.ref t0), .val (.double sw), .second, .val (.double on), .second, .val (.long op), .second, .val (.double ob1), .second, .val (.double pb1), .second, .unset, .unset, .unset, .unset]) rfl ?_
    show Steps p.tables e below (T2.setTop (mkF m 18 #[.val (.ref t0), .val (.double sw), .second, .val (.double on), .second, .val (.long op), .second, .val (.double ob1), .second, .val (.double pb1), .second, .unset, .unset, .unset, .unset] [])) _
    refine XS.aloadN X2.here hx rfl (hb hby d4_18) rfl rfl ?_
    show Steps p.tables e below (T2.setTop (mkF m 19 #[.val (.ref t0), .val (.double sw), .second, .val (.double on), .second, .val (.long op), .second, .val (.double ob1), .second, .val (.double pb1), .second, .unset, .unset, .unset, .unset] [(.ref t0)])) _
    refine XS.dup X2.here hx rfl (hb hby d4_19) rfl rfl ?_
    show Steps p.tables e below (T2.setTop (mkF m 20 #[.val (.ref t0), .val (.double sw), .second, .val (.double on), .second, .val (.long op), .second, .val (.double ob1), .second, .val (.double pb1), .second, .unset, .unset, .unset, .unset] [(.ref t0), (.ref t0)])) _
    refine st3 _ ?_
    show Steps p.tables e below (T3.setTop (mkF m 23 #[.val (.ref t0), .val (.double sw), .second, .val (.double on), .second, .val (.long op), .second, .val (.double ob1), .second, .val (.double pb1), .second, .unset, .unset, .unset, .unset] [(.long (0 : Int64)), (.ref t0)])) _
    refine XS.lconst X3.here hx rfl (hb hby d4_23) ?_
    show Steps p.tables e below (T3.setTop (mkF m 24 #[.val (.ref t0), .val (.double sw), .second, .val (.double on), .second, .val (.long op), .second, .val (.double ob1), .second, .val (.double pb1), .second, .unset, .unset, .unset, .unset] [(.long (1 : Int64)), (.long (0 : Int64)), (.ref t0)])) _
    refine XS.ladd X3.here hx rfl (hb hby d4_24) rfl ?_
    show Steps p.tables e below (T3.setTop (mkF m 25 #[.val (.ref t0), .val (.double sw), .second, .val (.double on), .second, .val (.long op), .second, .val (.double ob1), .second, .val (.double pb1), .second, .unset, .unset, .unset, .unset] [(.long ((0 : Int64) + (1 : Int64))), (.ref t0)])) _
    rw [show ((0 : Int64) + (1 : Int64)) = (1 : Int64) by decide]
    show Steps p.tables e below (T3.setTop (mkF m 25 #[.val (.ref t0), .val (.double sw), .second, .val (.double on), .second, .val (.long op), .second, .val (.double ob1), .second, .val (.double pb1), .second, .unset, .unset, .unset, .unset] [(.long (1 : Int64)), (.ref t0)])) _
    refine st4 _ ?_
    show Steps p.tables e below (T4.setTop (mkF m 28 #[.val (.ref t0), .val (.double sw), .second, .val (.double on), .second, .val (.long op), .second, .val (.double ob1), .second, .val (.double pb1), .second, .unset, .unset, .unset, .unset] [])) _
    refine XS.aloadN X4.here hx rfl (hb hby d4_28) rfl rfl ?_
    show Steps p.tables e below (T4.setTop (mkF m 29 #[.val (.ref t0), .val (.double sw), .second, .val (.double on), .second, .val (.long op), .second, .val (.double ob1), .second, .val (.double pb1), .second, .unset, .unset, .unset, .unset] [(.ref t0)])) _
    refine XS.dup X4.here hx rfl (hb hby d4_29) rfl rfl ?_
    show Steps p.tables e below (T4.setTop (mkF m 30 #[.val (.ref t0), .val (.double sw), .second, .val (.double on), .second, .val (.long op), .second, .val (.double ob1), .second, .val (.double pb1), .second, .unset, .unset, .unset, .unset] [(.ref t0), (.ref t0)])) _
    refine st16 _ ?_
    show Steps p.tables e below (T16.setTop (mkF m 33 #[.val (.ref t0), .val (.double sw), .second, .val (.double on), .second, .val (.long op), .second, .val (.double ob1), .second, .val (.double pb1), .second, .unset, .unset, .unset, .unset] [(.double (0 : UInt64)), (.ref t0)])) _
    refine XS.dloadN X16.here hx rfl (hb hby d4_33) rfl ?_
    show Steps p.tables e below (T16.setTop (mkF m 34 #[.val (.ref t0), .val (.double sw), .second, .val (.double on), .second, .val (.long op), .second, .val (.double ob1), .second, .val (.double pb1), .second, .unset, .unset, .unset, .unset] [(.double sw), (.double (0 : UInt64)), (.ref t0)])) _
    refine XS.daddS X16.here hx rfl (hb hby d4_34) rfl nn34 (v := w1) hq34 ?_
    show Steps p.tables e below (T16.setTop (mkF m 35 #[.val (.ref t0), .val (.double sw), .second, .val (.double on), .second, .val (.long op), .second, .val (.double ob1), .second, .val (.double pb1), .second, .unset, .unset, .unset, .unset] [(.double w1), (.ref t0)])) _
    refine st17 _ ?_
    show Steps p.tables e below (T17.setTop (mkF m 38 #[.val (.ref t0), .val (.double sw), .second, .val (.double on), .second, .val (.long op), .second, .val (.double ob1), .second, .val (.double pb1), .second, .unset, .unset, .unset, .unset] [])) _
    refine XS.aloadN X17.here hx rfl (hb hby d4_38) rfl rfl ?_
    show Steps p.tables e below (T17.setTop (mkF m 39 #[.val (.ref t0), .val (.double sw), .second, .val (.double on), .second, .val (.long op), .second, .val (.double ob1), .second, .val (.double pb1), .second, .unset, .unset, .unset, .unset] [(.ref t0)])) _
    refine XS.dup X17.here hx rfl (hb hby d4_39) rfl rfl ?_
    show Steps p.tables e below (T17.setTop (mkF m 40 #[.val (.ref t0), .val (.double sw), .second, .val (.double on), .second, .val (.long op), .second, .val (.double ob1), .second, .val (.double pb1), .second, .unset, .unset, .unset, .unset] [(.ref t0), (.ref t0)])) _
    refine st29 _ ?_
    show Steps p.tables e below (T29.setTop (mkF m 43 #[.val (.ref t0), .val (.double sw), .second, .val (.double on), .second, .val (.long op), .second, .val (.double ob1), .second, .val (.double pb1), .second, .unset, .unset, .unset, .unset] [(.double (0 : UInt64)), (.ref t0)])) _
    refine XS.dloadN X29.here hx rfl (hb hby d4_43) rfl ?_
    show Steps p.tables e below (T29.setTop (mkF m 44 #[.val (.ref t0), .val (.double sw), .second, .val (.double on), .second, .val (.long op), .second, .val (.double ob1), .second, .val (.double pb1), .second, .unset, .unset, .unset, .unset] [(.double sw), (.double (0 : UInt64)), (.ref t0)])) _
    refine XS.dloadN X29.here hx rfl (hb hby d4_44) rfl ?_
    show Steps p.tables e below (T29.setTop (mkF m 45 #[.val (.ref t0), .val (.double sw), .second, .val (.double on), .second, .val (.long op), .second, .val (.double ob1), .second, .val (.double pb1), .second, .unset, .unset, .unset, .unset] [(.double on), (.double sw), (.double (0 : UInt64)), (.ref t0)])) _
    refine XS.dmulS X29.here hx rfl (hb hby d4_45) rfl nn45 (v := (FP.dmul sw on)) rfl ?_
    show Steps p.tables e below (T29.setTop (mkF m 46 #[.val (.ref t0), .val (.double sw), .second, .val (.double on), .second, .val (.long op), .second, .val (.double ob1), .second, .val (.double pb1), .second, .unset, .unset, .unset, .unset] [(.double (FP.dmul sw on)), (.double (0 : UInt64)), (.ref t0)])) _
    refine XS.daddS X29.here hx rfl (hb hby d4_46) rfl nn46 (v := so1) hq46 ?_
    show Steps p.tables e below (T29.setTop (mkF m 47 #[.val (.ref t0), .val (.double sw), .second, .val (.double on), .second, .val (.long op), .second, .val (.double ob1), .second, .val (.double pb1), .second, .unset, .unset, .unset, .unset] [(.double so1), (.ref t0)])) _
    refine st30 _ ?_
    show Steps p.tables e below (T30.setTop (mkF m 50 #[.val (.ref t0), .val (.double sw), .second, .val (.double on), .second, .val (.long op), .second, .val (.double ob1), .second, .val (.double pb1), .second, .unset, .unset, .unset, .unset] [])) _
    refine XS.aloadN X30.here hx rfl (hb hby d4_50) rfl rfl ?_
    show Steps p.tables e below (T30.setTop (mkF m 51 #[.val (.ref t0), .val (.double sw), .second, .val (.double on), .second, .val (.long op), .second, .val (.double ob1), .second, .val (.double pb1), .second, .unset, .unset, .unset, .unset] [(.ref t0)])) _
    refine XS.dup X30.here hx rfl (hb hby d4_51) rfl rfl ?_
    show Steps p.tables e below (T30.setTop (mkF m 52 #[.val (.ref t0), .val (.double sw), .second, .val (.double on), .second, .val (.long op), .second, .val (.double ob1), .second, .val (.double pb1), .second, .unset, .unset, .unset, .unset] [(.ref t0), (.ref t0)])) _
    refine st42 _ ?_
    show Steps p.tables e below (T42.setTop (mkF m 55 #[.val (.ref t0), .val (.double sw), .second, .val (.double on), .second, .val (.long op), .second, .val (.double ob1), .second, .val (.double pb1), .second, .unset, .unset, .unset, .unset] [(.double (0 : UInt64)), (.ref t0)])) _
    refine XS.dloadN X42.here hx rfl (hb hby d4_55) rfl ?_
    show Steps p.tables e below (T42.setTop (mkF m 56 #[.val (.ref t0), .val (.double sw), .second, .val (.double on), .second, .val (.long op), .second, .val (.double ob1), .second, .val (.double pb1), .second, .unset, .unset, .unset, .unset] [(.double sw), (.double (0 : UInt64)), (.ref t0)])) _
    refine XS.lload X42.here hx rfl (hb hby d4_56) rfl ?_
    show Steps p.tables e below (T42.setTop (mkF m 58 #[.val (.ref t0), .val (.double sw), .second, .val (.double on), .second, .val (.long op), .second, .val (.double ob1), .second, .val (.double pb1), .second, .unset, .unset, .unset, .unset] [(.long op), (.double sw), (.double (0 : UInt64)), (.ref t0)])) _
    refine XS.l2dS X42.here hx rfl (hb hby d4_58) rfl (v := (FP.l2d op)) rfl ?_
    show Steps p.tables e below (T42.setTop (mkF m 59 #[.val (.ref t0), .val (.double sw), .second, .val (.double on), .second, .val (.long op), .second, .val (.double ob1), .second, .val (.double pb1), .second, .unset, .unset, .unset, .unset] [(.double (FP.l2d op)), (.double sw), (.double (0 : UInt64)), (.ref t0)])) _
    refine XS.dmulS X42.here hx rfl (hb hby d4_59) rfl nn59 (v := (FP.dmul sw (FP.l2d op))) rfl ?_
    show Steps p.tables e below (T42.setTop (mkF m 60 #[.val (.ref t0), .val (.double sw), .second, .val (.double on), .second, .val (.long op), .second, .val (.double ob1), .second, .val (.double pb1), .second, .unset, .unset, .unset, .unset] [(.double (FP.dmul sw (FP.l2d op))), (.double (0 : UInt64)), (.ref t0)])) _
    refine XS.daddS X42.here hx rfl (hb hby d4_60) rfl nn60 (v := sp1) hq60 ?_
    show Steps p.tables e below (T42.setTop (mkF m 61 #[.val (.ref t0), .val (.double sw), .second, .val (.double on), .second, .val (.long op), .second, .val (.double ob1), .second, .val (.double pb1), .second, .unset, .unset, .unset, .unset] [(.double sp1), (.ref t0)])) _
    refine st43 _ ?_
    show Steps p.tables e below (T43.setTop (mkF m 64 #[.val (.ref t0), .val (.double sw), .second, .val (.double on), .second, .val (.long op), .second, .val (.double ob1), .second, .val (.double pb1), .second, .unset, .unset, .unset, .unset] [])) _
    refine XS.dloadN X43.here hx rfl (hb hby d4_64) rfl ?_
    show Steps p.tables e below (T43.setTop (mkF m 65 #[.val (.ref t0), .val (.double sw), .second, .val (.double on), .second, .val (.long op), .second, .val (.double ob1), .second, .val (.double pb1), .second, .unset, .unset, .unset, .unset] [(.double on)])) _
    refine XS.aloadN X43.here hx rfl (hb hby d4_65) rfl rfl ?_
    show Steps p.tables e below (T43.setTop (mkF m 66 #[.val (.ref t0), .val (.double sw), .second, .val (.double on), .second, .val (.long op), .second, .val (.double ob1), .second, .val (.double pb1), .second, .unset, .unset, .unset, .unset] [(.ref t0), (.double on)])) _
    refine st55.trans ?_
    show Steps p.tables e below (T55.setTop (mkF m 69 #[.val (.ref t0), .val (.double sw), .second, .val (.double on), .second, .val (.long op), .second, .val (.double ob1), .second, .val (.double pb1), .second, .unset, .unset, .unset, .unset] [(.double (FP.ddiv so1 w1)), (.double on)])) _
    refine XS.dsubS X55.here hx rfl (hb hby d4_69) rfl nn69 (v := oa1) hq69 ?_
    show Steps p.tables e below (T55.setTop (mkF m 70 #[.val (.ref t0), .val (.double sw), .second, .val (.double on), .second, .val (.long op), .second, .val (.double ob1), .second, .val (.double pb1), .second, .unset, .unset, .unset, .unset] [(.double oa1)])) _
    refine XS.dstore X55.here hx rfl (hb hby d4_70) rfl (l' := #[.val (.ref t0), .val (.double sw), .second, .val (.double on), .second, .val (.long op), .second, .val (.double ob1), .second, .val (.double pb1), .second, .val (.double oa1), .second, .unset, .unset]) rfl ?_
    show Steps p.tables e below (T55.setTop (mkF m 72 #[.val (.ref t0), .val (.double sw), .second, .val (.double on), .second, .val (.long op), .second, .val (.double ob1), .second, .val (.double pb1), .second, .val (.double oa1), .second, .unset, .unset] [])) _
    refine XS.lload X55.here hx rfl (hb hby d4_72) rfl ?_
    show Steps p.tables e below (T55.setTop (mkF m 74 #[.val (.ref t0), .val (.double sw), .second, .val (.double on), .second, .val (.long op), .second, .val (.double ob1), .second, .val (.double pb1), .second, .val (.double oa1), .second, .unset, .unset] [(.long op)])) _
    refine XS.l2dS X55.here hx rfl (hb hby d4_74) rfl (v := (FP.l2d op)) rfl ?_
    show Steps p.tables e below (T55.setTop (mkF m 75 #[.val (.ref t0), .val (.double sw), .second, .val (.double on), .second, .val (.long op), .second, .val (.double ob1), .second, .val (.double pb1), .second, .val (.double oa1), .second, .unset, .unset] [(.double (FP.l2d op))])) _
    refine XS.aloadN X55.here hx rfl (hb hby d4_75) rfl rfl ?_
    show Steps p.tables e below (T55.setTop (mkF m 76 #[.val (.ref t0), .val (.double sw), .second, .val (.double on), .second, .val (.long op), .second, .val (.double ob1), .second, .val (.double pb1), .second, .val (.double oa1), .second, .unset, .unset] [(.ref t0), (.double (FP.l2d op))])) _
    refine st56.trans ?_
    show Steps p.tables e below (T56.setTop (mkF m 79 #[.val (.ref t0), .val (.double sw), .second, .val (.double on), .second, .val (.long op), .second, .val (.double ob1), .second, .val (.double pb1), .second, .val (.double oa1), .second, .unset, .unset] [(.double (FP.ddiv sp1 w1)), (.double (FP.l2d op))])) _
    refine XS.dsubS X56.here hx rfl (hb hby d4_79) rfl nn79 (v := pa1) hq79 ?_
    show Steps p.tables e below (T56.setTop (mkF m 80 #[.val (.ref t0), .val (.double sw), .second, .val (.double on), .second, .val (.long op), .second, .val (.double ob1), .second, .val (.double pb1), .second, .val (.double oa1), .second, .unset, .unset] [(.double pa1)])) _
    refine XS.dstore X56.here hx rfl (hb hby d4_80) rfl (l' := #[.val (.ref t0), .val (.double sw), .second, .val (.double on), .second, .val (.long op), .second, .val (.double ob1), .second, .val (.double pb1), .second, .val (.double oa1), .second, .val (.double pa1), .second]) rfl ?_
    show Steps p.tables e below (T56.setTop (mkF m 82 #[.val (.ref t0), .val (.double sw), .second, .val (.double on), .second, .val (.long op), .second, .val (.double ob1), .second, .val (.double pb1), .second, .val (.double oa1), .second, .val (.double pa1), .second] [])) _
    refine XS.aloadN X56.here hx rfl (hb hby d4_82) rfl rfl ?_
    show Steps p.tables e below (T56.setTop (mkF m 83 #[.val (.ref t0), .val (.double sw), .second, .val (.double on), .second, .val (.long op), .second, .val (.double ob1), .second, .val (.double pb1), .second, .val (.double oa1), .second, .val (.double pa1), .second] [(.ref t0)])) _
    refine XS.dup X56.here hx rfl (hb hby d4_83) rfl rfl ?_
    show Steps p.tables e below (T56.setTop (mkF m 84 #[.val (.ref t0), .val (.double sw), .second, .val (.double on), .second, .val (.long op), .second, .val (.double ob1), .second, .val (.double pb1), .second, .val (.double oa1), .second, .val (.double pa1), .second] [(.ref t0), (.ref t0)])) _
    refine st57 _ ?_
    show Steps p.tables e below (T57.setTop (mkF m 87 #[.val (.ref t0), .val (.double sw), .second, .val (.double on), .second, .val (.long op), .second, .val (.double ob1), .second, .val (.double pb1), .second, .val (.double oa1), .second, .val (.double pa1), .second] [(.double (0 : UInt64)), (.ref t0)])) _
    refine XS.dloadN X57.here hx rfl (hb hby d4_87) rfl ?_
    show Steps p.tables e below (T57.setTop (mkF m 88 #[.val (.ref t0), .val (.double sw), .second, .val (.double on), .second, .val (.long op), .second, .val (.double ob1), .second, .val (.double pb1), .second, .val (.double oa1), .second, .val (.double pa1), .second] [(.double sw), (.double (0 : UInt64)), (.ref t0)])) _
    refine XS.dload X57.here hx rfl (hb hby d4_88) rfl ?_
    show Steps p.tables e below (T57.setTop (mkF m 90 #[.val (.ref t0), .val (.double sw), .second, .val (.double on), .second, .val (.long op), .second, .val (.double ob1), .second, .val (.double pb1), .second, .val (.double oa1), .second, .val (.double pa1), .second] [(.double ob1), (.double sw), (.double (0 : UInt64)), (.ref t0)])) _
    refine XS.dmulS X57.here hx rfl (hb hby d4_90) rfl nn90 (v := (FP.dmul sw ob1)) rfl ?_
    show Steps p.tables e below (T57.setTop (mkF m 91 #[.val (.ref t0), .val (.double sw), .second, .val (.double on), .second, .val (.long op), .second, .val (.double ob1), .second, .val (.double pb1), .second, .val (.double oa1), .second, .val (.double pa1), .second] [(.double (FP.dmul sw ob1)), (.double (0 : UInt64)), (.ref t0)])) _
    refine XS.dload X57.here hx rfl (hb hby d4_91) rfl ?_
    show Steps p.tables e below (T57.setTop (mkF m 93 #[.val (.ref t0), .val (.double sw), .second, .val (.double on), .second, .val (.long op), .second, .val (.double ob1), .second, .val (.double pb1), .second, .val (.double oa1), .second, .val (.double pa1), .second] [(.double oa1), (.double (FP.dmul sw ob1)), (.double (0 : UInt64)), (.ref t0)])) _
    refine XS.dmulS X57.here hx rfl (hb hby d4_93) rfl nn93 (v := (FP.dmul (FP.dmul sw ob1) oa1)) rfl ?_
    show Steps p.tables e below (T57.setTop (mkF m 94 #[.val (.ref t0), .val (.double sw), .second, .val (.double on), .second, .val (.long op), .second, .val (.double ob1), .second, .val (.double pb1), .second, .val (.double oa1), .second, .val (.double pa1), .second] [(.double (FP.dmul (FP.dmul sw ob1) oa1)), (.double (0 : UInt64)), (.ref t0)])) _
    refine XS.daddS X57.here hx rfl (hb hby d4_94) rfl nn94 (v := ma1) hq94 ?_
    show Steps p.tables e below (T57.setTop (mkF m 95 #[.val (.ref t0), .val (.double sw), .second, .val (.double on), .second, .val (.long op), .second, .val (.double ob1), .second, .val (.double pb1), .second, .val (.double oa1), .second, .val (.double pa1), .second] [(.double ma1), (.ref t0)])) _
    refine st58 _ ?_
    show Steps p.tables e below (T58.setTop (mkF m 98 #[.val (.ref t0), .val (.double sw), .second, .val (.double on), .second, .val (.long op), .second, .val (.double ob1), .second, .val (.double pb1), .second, .val (.double oa1), .second, .val (.double pa1), .second] [])) _
    refine XS.aloadN X58.here hx rfl (hb hby d4_98) rfl rfl ?_
    show Steps p.tables e below (T58.setTop (mkF m 99 #[.val (.ref t0), .val (.double sw), .second, .val (.double on), .second, .val (.long op), .second, .val (.double ob1), .second, .val (.double pb1), .second, .val (.double oa1), .second, .val (.double pa1), .second] [(.ref t0)])) _
    refine XS.dup X58.here hx rfl (hb hby d4_99) rfl rfl ?_
    show Steps p.tables e below (T58.setTop (mkF m 100 #[.val (.ref t0), .val (.double sw), .second, .val (.double on), .second, .val (.long op), .second, .val (.double ob1), .second, .val (.double pb1), .second, .val (.double oa1), .second, .val (.double pa1), .second] [(.ref t0), (.ref t0)])) _
    refine st70 _ ?_
    show Steps p.tables e below (T70.setTop (mkF m 103 #[.val (.ref t0), .val (.double sw), .second, .val (.double on), .second, .val (.long op), .second, .val (.double ob1), .second, .val (.double pb1), .second, .val (.double oa1), .second, .val (.double pa1), .second] [(.double (0 : UInt64)), (.ref t0)])) _
    refine XS.dloadN X70.here hx rfl (hb hby d4_103) rfl ?_
    show Steps p.tables e below (T70.setTop (mkF m 104 #[.val (.ref t0), .val (.double sw), .second, .val (.double on), .second, .val (.long op), .second, .val (.double ob1), .second, .val (.double pb1), .second, .val (.double oa1), .second, .val (.double pa1), .second] [(.double sw), (.double (0 : UInt64)), (.ref t0)])) _
    refine XS.dload X70.here hx rfl (hb hby d4_104) rfl ?_
    show Steps p.tables e below (T70.setTop (mkF m 106 #[.val (.ref t0), .val (.double sw), .second, .val (.double on), .second, .val (.long op), .second, .val (.double ob1), .second, .val (.double pb1), .second, .val (.double oa1), .second, .val (.double pa1), .second] [(.double pb1), (.double sw), (.double (0 : UInt64)), (.ref t0)])) _
    refine XS.dmulS X70.here hx rfl (hb hby d4_106) rfl nn106 (v := (FP.dmul sw pb1)) rfl ?_
    show Steps p.tables e below (T70.setTop (mkF m 107 #[.val (.ref t0), .val (.double sw), .second, .val (.double on), .second, .val (.long op), .second, .val (.double ob1), .second, .val (.double pb1), .second, .val (.double oa1), .second, .val (.double pa1), .second] [(.double (FP.dmul sw pb1)), (.double (0 : UInt64)), (.ref t0)])) _
    refine XS.dload X70.here hx rfl (hb hby d4_107) rfl ?_
    show Steps p.tables e below (T70.setTop (mkF m 109 #[.val (.ref t0), .val (.double sw), .second, .val (.double on), .second, .val (.long op), .second, .val (.double ob1), .second, .val (.double pb1), .second, .val (.double oa1), .second, .val (.double pa1), .second] [(.double pa1), (.double (FP.dmul sw pb1)), (.double (0 : UInt64)), (.ref t0)])) _
    refine XS.dmulS X70.here hx rfl (hb hby d4_109) rfl nn109 (v := (FP.dmul (FP.dmul sw pb1) pa1)) rfl ?_
    show Steps p.tables e below (T70.setTop (mkF m 110 #[.val (.ref t0), .val (.double sw), .second, .val (.double on), .second, .val (.long op), .second, .val (.double ob1), .second, .val (.double pb1), .second, .val (.double oa1), .second, .val (.double pa1), .second] [(.double (FP.dmul (FP.dmul sw pb1) pa1)), (.double (0 : UInt64)), (.ref t0)])) _
    refine XS.daddS X70.here hx rfl (hb hby d4_110) rfl nn110 (v := mb1) hq110 ?_
    show Steps p.tables e below (T70.setTop (mkF m 111 #[.val (.ref t0), .val (.double sw), .second, .val (.double on), .second, .val (.long op), .second, .val (.double ob1), .second, .val (.double pb1), .second, .val (.double oa1), .second, .val (.double pa1), .second] [(.double mb1), (.ref t0)])) _
    refine st71 _ ?_
    show Steps p.tables e below (T71.setTop (mkF m 114 #[.val (.ref t0), .val (.double sw), .second, .val (.double on), .second, .val (.long op), .second, .val (.double ob1), .second, .val (.double pb1), .second, .val (.double oa1), .second, .val (.double pa1), .second] [])) _
    refine XS.aloadN X71.here hx rfl (hb hby d4_114) rfl rfl ?_
    show Steps p.tables e below (T71.setTop (mkF m 115 #[.val (.ref t0), .val (.double sw), .second, .val (.double on), .second, .val (.long op), .second, .val (.double ob1), .second, .val (.double pb1), .second, .val (.double oa1), .second, .val (.double pa1), .second] [(.ref t0)])) _
    refine XS.dup X71.here hx rfl (hb hby d4_115) rfl rfl ?_
    show Steps p.tables e below (T71.setTop (mkF m 116 #[.val (.ref t0), .val (.double sw), .second, .val (.double on), .second, .val (.long op), .second, .val (.double ob1), .second, .val (.double pb1), .second, .val (.double oa1), .second, .val (.double pa1), .second] [(.ref t0), (.ref t0)])) _
    refine st83 _ ?_
    show Steps p.tables e below (T83.setTop (mkF m 119 #[.val (.ref t0), .val (.double sw), .second, .val (.double on), .second, .val (.long op), .second, .val (.double ob1), .second, .val (.double pb1), .second, .val (.double oa1), .second, .val (.double pa1), .second] [(.double (0 : UInt64)), (.ref t0)])) _
    refine XS.dloadN X83.here hx rfl (hb hby d4_119) rfl ?_
    show Steps p.tables e below (T83.setTop (mkF m 120 #[.val (.ref t0), .val (.double sw), .second, .val (.double on), .second, .val (.long op), .second, .val (.double ob1), .second, .val (.double pb1), .second, .val (.double oa1), .second, .val (.double pa1), .second] [(.double sw), (.double (0 : UInt64)), (.ref t0)])) _
    refine XS.dload X83.here hx rfl (hb hby d4_120) rfl ?_
    show Steps p.tables e below (T83.setTop (mkF m 122 #[.val (.ref t0), .val (.double sw), .second, .val (.double on), .second, .val (.long op), .second, .val (.double ob1), .second, .val (.double pb1), .second, .val (.double oa1), .second, .val (.double pa1), .second] [(.double ob1), (.double sw), (.double (0 : UInt64)), (.ref t0)])) _
    refine XS.dmulS X83.here hx rfl (hb hby d4_122) rfl nn122 (v := (FP.dmul sw ob1)) rfl ?_
    show Steps p.tables e below (T83.setTop (mkF m 123 #[.val (.ref t0), .val (.double sw), .second, .val (.double on), .second, .val (.long op), .second, .val (.double ob1), .second, .val (.double pb1), .second, .val (.double oa1), .second, .val (.double pa1), .second] [(.double (FP.dmul sw ob1)), (.double (0 : UInt64)), (.ref t0)])) _
    refine XS.dload X83.here hx rfl (hb hby d4_123) rfl ?_
    show Steps p.tables e below (T83.setTop (mkF m 125 #[.val (.ref t0), .val (.double sw), .second, .val (.double on), .second, .val (.long op), .second, .val (.double ob1), .second, .val (.double pb1), .second, .val (.double oa1), .second, .val (.double pa1), .second] [(.double pa1), (.double (FP.dmul sw ob1)), (.double (0 : UInt64)), (.ref t0)])) _
    refine XS.dmulS X83.here hx rfl (hb hby d4_125) rfl nn125 (v := (FP.dmul (FP.dmul sw ob1) pa1)) rfl ?_
    show Steps p.tables e below (T83.setTop (mkF m 126 #[.val (.ref t0), .val (.double sw), .second, .val (.double on), .second, .val (.long op), .second, .val (.double ob1), .second, .val (.double pb1), .second, .val (.double oa1), .second, .val (.double pa1), .second] [(.double (FP.dmul (FP.dmul sw ob1) pa1)), (.double (0 : UInt64)), (.ref t0)])) _
    refine XS.daddS X83.here hx rfl (hb hby d4_126) rfl nn126 (v := mc1) hq126 ?_
    show Steps p.tables e below (T83.setTop (mkF m 127 #[.val (.ref t0), .val (.double sw), .second, .val (.double on), .second, .val (.long op), .second, .val (.double ob1), .second, .val (.double pb1), .second, .val (.double oa1), .second, .val (.double pa1), .second] [(.double mc1), (.ref t0)])) _
    refine st84 _ ?_
    show Steps p.tables e below (T84.setTop (mkF m 130 #[.val (.ref t0), .val (.double sw), .second, .val (.double on), .second, .val (.long op), .second, .val (.double ob1), .second, .val (.double pb1), .second, .val (.double oa1), .second, .val (.double pa1), .second] [])) _
    refine XS.lload X84.here hx rfl (hb hby d4_130) rfl ?_
    show Steps p.tables e below (T84.setTop (mkF m 132 #[.val (.ref t0), .val (.double sw), .second, .val (.double on), .second, .val (.long op), .second, .val (.double ob1), .second, .val (.double pb1), .second, .val (.double oa1), .second, .val (.double pa1), .second] [(.long op)])) _
    refine XS.lconst X84.here hx rfl (hb hby d4_132) ?_
    show Steps p.tables e below (T84.setTop (mkF m 133 #[.val (.ref t0), .val (.double sw), .second, .val (.double on), .second, .val (.long op), .second, .val (.double ob1), .second, .val (.double pb1), .second, .val (.double oa1), .second, .val (.double pa1), .second] [(.long (0 : Int64)), (.long op)])) _
    refine XS.lcmp X84.here hx rfl (hb hby d4_133) rfl ?_
    show Steps p.tables e below (T84.setTop (mkF m 134 #[.val (.ref t0), .val (.double sw), .second, .val (.double on), .second, .val (.long op), .second, .val (.double ob1), .second, .val (.double pb1), .second, .val (.double oa1), .second, .val (.double pa1), .second] [(.int (lcmpW op (0 : Int64)))])) _
    refine XS.ifYes X84.here hx rfl (pc0 := 134) (pc' := 166) rfl (hb hby d4_134) rfl ((if0 _ _).trans (flt hc134).2.2.2) (by decide) (by decide) ?_
    show Steps p.tables e below (T84.setTop (mkF m 166 #[.val (.ref t0), .val (.double sw), .second, .val (.double on), .second, .val (.long op), .second, .val (.double ob1), .second, .val (.double pb1), .second, .val (.double oa1), .second, .val (.double pa1), .second] [])) _
    refine XS.aloadN X84.here hx rfl (hb hby d4_166) rfl rfl ?_
    show Steps p.tables e below (T84.setTop (mkF m 167 #[.val (.ref t0), .val (.double sw), .second, .val (.double on), .second, .val (.long op), .second, .val (.double ob1), .second, .val (.double pb1), .second, .val (.double oa1), .second, .val (.double pa1), .second] [(.ref t0)])) _
    refine XS.dup X84.here hx rfl (hb hby d4_167) rfl rfl ?_
    show Steps p.tables e below (T84.setTop (mkF m 168 #[.val (.ref t0), .val (.double sw), .second, .val (.double on), .second, .val (.long op), .second, .val (.double ob1), .second, .val (.double pb1), .second, .val (.double oa1), .second, .val (.double pa1), .second] [(.ref t0), (.ref t0)])) _
    refine st96 _ ?_
    show Steps p.tables e below (T96.setTop (mkF m 171 #[.val (.ref t0), .val (.double sw), .second, .val (.double on), .second, .val (.long op), .second, .val (.double ob1), .second, .val (.double pb1), .second, .val (.double oa1), .second, .val (.double pa1), .second] [(.double (0 : UInt64)), (.ref t0)])) _
    refine XS.dloadN X96.here hx rfl (hb hby d4_171) rfl ?_
    show Steps p.tables e below (T96.setTop (mkF m 172 #[.val (.ref t0), .val (.double sw), .second, .val (.double on), .second, .val (.long op), .second, .val (.double ob1), .second, .val (.double pb1), .second, .val (.double oa1), .second, .val (.double pa1), .second] [(.double sw), (.double (0 : UInt64)), (.ref t0)])) _
    refine XS.daddS X96.here hx rfl (hb hby d4_172) rfl nn172 (v := zw1) hq172 ?_
    show Steps p.tables e below (T96.setTop (mkF m 173 #[.val (.ref t0), .val (.double sw), .second, .val (.double on), .second, .val (.long op), .second, .val (.double ob1), .second, .val (.double pb1), .second, .val (.double oa1), .second, .val (.double pa1), .second] [(.double zw1), (.ref t0)])) _
    refine st97 _ ?_
    show Steps p.tables e below (T97.setTop (mkF m 176 #[.val (.ref t0), .val (.double sw), .second, .val (.double on), .second, .val (.long op), .second, .val (.double ob1), .second, .val (.double pb1), .second, .val (.double oa1), .second, .val (.double pa1), .second] [])) _
    exact X97.returnOut hx Bd.returns (hb hby d4_176) hr
  · show Q_rm4_0z Z t0 sw on op ob1 pb1 w1 so1 sp1 oa1 pa1 ma1 mb1 mc1 zw1 h0 n0 _ T97.heap _
    rw [e97]
    exact ⟨rfl, N97, K97, f98, f99, f100, f101, f102, f103, f104, f105, f106, f107, f108⟩
def Q_rm4_1p (Z : State) (t0 : Addr) (sw : UInt64) (on : UInt64) (op : Int64) (w1 : UInt64) (so1 : UInt64) (sp1 : UInt64) (ma1 : UInt64) (mb1 : UInt64) (mc1 : UInt64) (pw1 : UInt64) (wr1 : UInt64) (zw1 : UInt64) (ob2 : UInt64) (pb2 : UInt64) (w2 : UInt64) (so2 : UInt64) (sp2 : UInt64) (oa2 : UInt64) (pa2 : UInt64) (ma2 : UInt64) (mb2 : UInt64) (mc2 : UInt64) (pw2 : UInt64) (wr2 : UInt64) (h0 : Heap) (n0 : Nat) (v : Option Value) (h : Heap) (L : List Loc) : Prop := v = none ∧ Fr n0 L ∧ Keep h0 h [t0] ∧ Exa Z h t0 "com/example/arrivals/arrivals/core/SequenceStatistics" ∧ Fld Z h t0 "com/example/arrivals/arrivals/core/SequenceStatistics" "count" "J" (.long (2 : Int64)) ∧ Fld Z h t0 "com/example/arrivals/arrivals/core/SequenceStatistics" "weight" "D" (.double w2) ∧ Fld Z h t0 "com/example/arrivals/arrivals/core/SequenceStatistics" "sumOnline" "D" (.double so2) ∧ Fld Z h t0 "com/example/arrivals/arrivals/core/SequenceStatistics" "sumOptimum" "D" (.double sp2) ∧ Fld Z h t0 "com/example/arrivals/arrivals/core/SequenceStatistics" "comomentOnline" "D" (.double ma2) ∧ Fld Z h t0 "com/example/arrivals/arrivals/core/SequenceStatistics" "comomentOptimum" "D" (.double mb2) ∧ Fld Z h t0 "com/example/arrivals/arrivals/core/SequenceStatistics" "comomentBoth" "D" (.double mc2) ∧ Fld Z h t0 "com/example/arrivals/arrivals/core/SequenceStatistics" "positiveWeight" "D" (.double pw2) ∧ Fld Z h t0 "com/example/arrivals/arrivals/core/SequenceStatistics" "weightedRatios" "D" (.double wr2) ∧ Fld Z h t0 "com/example/arrivals/arrivals/core/SequenceStatistics" "zeroWeight" "D" (.double zw1)
set_option maxRecDepth 65536 in
set_option maxHeartbeats 40000000 in
theorem rm4_1p (l : Launch) (Z : State) (a0 : Array Value) (hw : ∀ d ∈ tables_1, d.before a0 Z = true) (ws : List Jvm.Cond) (t0 : Addr) (sw : UInt64) (on : UInt64) (op : Int64) (w1 : UInt64) (so1 : UInt64) (sp1 : UInt64) (ma1 : UInt64) (mb1 : UInt64) (mc1 : UInt64) (pw1 : UInt64) (wr1 : UInt64) (zw1 : UInt64) (ob2 : UInt64) (pb2 : UInt64) (w2 : UInt64) (so2 : UInt64) (sp2 : UInt64) (oa2 : UInt64) (pa2 : UInt64) (ma2 : UInt64) (mb2 : UInt64) (mc2 : UInt64) (pw2 : UInt64) (wr2 : UInt64) (h0 : Heap) (n0 : Nat) (Z0 : n0 ≤ h0.size) (E_t0 : Exa Z h0 t0 "com/example/arrivals/arrivals/core/SequenceStatistics") (g_t0 : n0 ≤ t0) (F_count_t0 : Fld Z h0 t0 "com/example/arrivals/arrivals/core/SequenceStatistics" "count" "J" (.long (1 : Int64))) (F_weight_t0 : Fld Z h0 t0 "com/example/arrivals/arrivals/core/SequenceStatistics" "weight" "D" (.double w1)) (F_sumOnline_t0 : Fld Z h0 t0 "com/example/arrivals/arrivals/core/SequenceStatistics" "sumOnline" "D" (.double so1)) (F_sumOptimum_t0 : Fld Z h0 t0 "com/example/arrivals/arrivals/core/SequenceStatistics" "sumOptimum" "D" (.double sp1)) (F_comomentOnline_t0 : Fld Z h0 t0 "com/example/arrivals/arrivals/core/SequenceStatistics" "comomentOnline" "D" (.double ma1)) (F_comomentOptimum_t0 : Fld Z h0 t0 "com/example/arrivals/arrivals/core/SequenceStatistics" "comomentOptimum" "D" (.double mb1)) (F_comomentBoth_t0 : Fld Z h0 t0 "com/example/arrivals/arrivals/core/SequenceStatistics" "comomentBoth" "D" (.double mc1)) (F_positiveWeight_t0 : Fld Z h0 t0 "com/example/arrivals/arrivals/core/SequenceStatistics" "positiveWeight" "D" (.double pw1)) (F_weightedRatios_t0 : Fld Z h0 t0 "com/example/arrivals/arrivals/core/SequenceStatistics" "weightedRatios" "D" (.double wr1)) (F_zeroWeight_t0 : Fld Z h0 t0 "com/example/arrivals/arrivals/core/SequenceStatistics" "zeroWeight" "D" (.double zw1)) (nn21_2 : Jvm.Free.Fl.NoNaN64 (FP.ddiv so1 w1)) (nn5 : Jvm.Free.Fl.NoNaN64 (FP.dsub on (FP.ddiv so1 w1))) (hq5 : (FP.dsub on (FP.ddiv so1 w1)) = ob2) (nn21_12 : Jvm.Free.Fl.NoNaN64 (FP.ddiv sp1 w1)) (nn15 : Jvm.Free.Fl.NoNaN64 (FP.dsub (FP.l2d op) (FP.ddiv sp1 w1))) (hq15 : (FP.dsub (FP.l2d op) (FP.ddiv sp1 w1)) = pb2) (nn34 : Jvm.Free.Fl.NoNaN64 (FP.dadd w1 sw)) (hq34 : (FP.dadd w1 sw) = w2) (nn45 : Jvm.Free.Fl.NoNaN64 (FP.dmul sw on)) (nn46 : Jvm.Free.Fl.NoNaN64 (FP.dadd so1 (FP.dmul sw on))) (hq46 : (FP.dadd so1 (FP.dmul sw on)) = so2) (nn59 : Jvm.Free.Fl.NoNaN64 (FP.dmul sw (FP.l2d op))) (nn60 : Jvm.Free.Fl.NoNaN64 (FP.dadd sp1 (FP.dmul sw (FP.l2d op)))) (hq60 : (FP.dadd sp1 (FP.dmul sw (FP.l2d op))) = sp2) (nn21_66 : Jvm.Free.Fl.NoNaN64 (FP.ddiv so2 w2)) (nn69 : Jvm.Free.Fl.NoNaN64 (FP.dsub on (FP.ddiv so2 w2))) (hq69 : (FP.dsub on (FP.ddiv so2 w2)) = oa2) (nn21_76 : Jvm.Free.Fl.NoNaN64 (FP.ddiv sp2 w2)) (nn79 : Jvm.Free.Fl.NoNaN64 (FP.dsub (FP.l2d op) (FP.ddiv sp2 w2))) (hq79 : (FP.dsub (FP.l2d op) (FP.ddiv sp2 w2)) = pa2) (nn90 : Jvm.Free.Fl.NoNaN64 (FP.dmul sw ob2)) (nn93 : Jvm.Free.Fl.NoNaN64 (FP.dmul (FP.dmul sw ob2) oa2)) (nn94 : Jvm.Free.Fl.NoNaN64 (FP.dadd ma1 (FP.dmul (FP.dmul sw ob2) oa2))) (hq94 : (FP.dadd ma1 (FP.dmul (FP.dmul sw ob2) oa2)) = ma2) (nn106 : Jvm.Free.Fl.NoNaN64 (FP.dmul sw pb2)) (nn109 : Jvm.Free.Fl.NoNaN64 (FP.dmul (FP.dmul sw pb2) pa2)) (nn110 : Jvm.Free.Fl.NoNaN64 (FP.dadd mb1 (FP.dmul (FP.dmul sw pb2) pa2))) (hq110 : (FP.dadd mb1 (FP.dmul (FP.dmul sw pb2) pa2)) = mb2) (nn122 : Jvm.Free.Fl.NoNaN64 (FP.dmul sw ob2)) (nn125 : Jvm.Free.Fl.NoNaN64 (FP.dmul (FP.dmul sw ob2) pa2)) (nn126 : Jvm.Free.Fl.NoNaN64 (FP.dadd mc1 (FP.dmul (FP.dmul sw ob2) pa2))) (hq126 : (FP.dadd mc1 (FP.dmul (FP.dmul sw ob2) pa2)) = mc2) (hc134 : (0 : Int32) < (lcmpW op (0 : Int64))) (nn143 : Jvm.Free.Fl.NoNaN64 (FP.dadd pw1 sw)) (hq143 : (FP.dadd pw1 sw) = pw2) (nn157 : Jvm.Free.Fl.NoNaN64 (FP.ddiv on (FP.l2d op))) (nn158 : Jvm.Free.Fl.NoNaN64 (FP.dmul sw (FP.ddiv on (FP.l2d op)))) (nn159 : Jvm.Free.Fl.NoNaN64 (FP.dadd wr1 (FP.dmul sw (FP.ddiv on (FP.l2d op))))) (hq159 : (FP.dadd wr1 (FP.dmul sw (FP.ddiv on (FP.l2d op)))) = wr2) :
    MetFree l (⟨"com/example/arrivals/arrivals/core/SequenceStatistics", "add", "(DDJ)V"⟩ : MethodName) (head1 (Jvm.Cond.code (⟨"com/example/arrivals/arrivals/core/SequenceStatistics", "add", "(DDJ)V"⟩ : MethodName) prog_26_method_2_code 15 none :: ws) ({ frames := 1, cells := 0, slots := 0, locals := 14 } : Room)) (fun a U => a = #[(.ref t0), (.double sw), (.double on), (.long op)] ∧ Z.Warmed39 U.vm ∧ U.heap = h0) (fun _ _ _ _ _ => True) (fun _ U o U' => ∃ v L, o = .returned v ∧ Q_rm4_1p Z t0 sw on op w1 so1 sp1 ma1 mb1 mc1 pw1 wr1 zw1 ob2 pb2 w2 so2 sp2 oa2 pa2 ma2 mb2 mc2 pw2 wr2 h0 n0 v U'.heap L ∧ FrameEnd U o U' L ({ frames := 1, cells := 0, slots := 0, locals := 14 } : Room).cells ({ frames := 1, cells := 0, slots := 0, locals := 14 } : Room).slots) := by
  refine MetFree.of_bodySF (plainFor_of_name pn_com_example_arrivals_arrivals_core_SequenceStatistics) hisR ?_
  intro p e s m args below meth c s₁ Bd hml0 hP hK
  obtain ⟨rfl, hZ, hh⟩ := hP
  have hx := Bd.exec
  have hby := Bd.bytes
  have hml : c.maxLocals = 15 := hml0
  have hown : s.vm.findClass "com/example/arrivals/arrivals/core/SequenceStatistics" = some m.cls := findClass_of_methodNamed Bd.named
  have hnm := (name_of_methodNamed Bd.named Bd.method).1
  have X0 : Stand p l e ({ frames := 1, cells := 0, slots := 0, locals := 14 } : Room) s m #[(.ref t0), (.double sw), (.double on), (.long op)] below meth c s₁ [] 0 0 := Stand.of_body Bd
  have e0 : s₁.heap = h0 := by rw [← hh, Bd.state]; rfl
  have N0 := Fr.nil n0
  have pre0 : ∀ t, Steps p.tables e below (s₁.setTop (mkF m 0 #[.val (.ref t0), .val (.double sw), .second, .val (.double on), .second, .val (.long op), .second, .unset, .unset, .unset, .unset, .unset, .unset, .unset, .unset] [])) t → Steps p.tables e below (s₁.setTop (entryFrame m #[(.ref t0), (.double sw), (.double on), (.long op)] 15)) t := fun t k => castTop (ef_4_RDDJ m t0 sw on op) k
  obtain ⟨cq1, kq1, q1a, q1b, q1c⟩ := isOf hZ e0 E_t0
  obtain ⟨_, _, ⟨T1, L1, k1, n1⟩, -, X1, ⟨Lc1, hQ1, l1, y1, z1⟩, st1⟩ := X0.virtualBack hx (y := (⟨"com/example/arrivals/arrivals/core/SequenceStatistics", "meanOnline", "()D"⟩ : MethodName)) (z := (⟨"com/example/arrivals/arrivals/core/SequenceStatistics", "meanOnline", "()D"⟩ : MethodName)) hown (mvT hZ (hw _ (List.mem_of_getElem? (i := 22) rfl))) (mvT hZ (hw _ (List.mem_of_getElem? (i := 23) rfl))) (notFace_of_selects (args := #[]) (mvT hZ (hw _ (List.mem_of_getElem? (i := 25) rfl)))) (mvT hZ (hw _ (List.mem_of_getElem? (i := 25) rfl))) (mvT hZ (hw _ (List.mem_of_getElem? (i := 24) rfl))) (by decide) (backOf (W := 2) (rm5_1 l Z a0 hw [] t0 w1 so1 h0 n0 Z0 F_count_t0 F_sumOnline_t0 F_weight_t0 nn21_2) hZ (hw _ (List.mem_of_getElem? (i := 26) rfl)) (hw _ (List.mem_of_getElem? (i := 2) rfl)) (by decide) (by decide)) q1a q1c (g := (mkF m 2 #[.val (.ref t0), .val (.double sw), .second, .val (.double on), .second, .val (.long op), .second, .unset, .unset, .unset, .unset, .unset, .unset, .unset, .unset] [(.ref t0), (.double on)])) rfl (by rw [hml]; rfl) (Steps.refl _) (argsL := []) (rest := [(.double on)]) (lenOf pd_0 rfl) rfl (by show 2 * 0 + _ ≤ _; exact Nat.le_of_eq rfl) (hb hby d4_2) (fun _ _ => ⟨rfl, e0, (by decide : 0 + 0 ≤ _), (by decide : 0 + 0 ≤ _)⟩)
  dsimp only [Pt.U, Pt.locs, Pt.cells, Pt.slots] at X1 l1 y1 z1 st1 hQ1
  subst l1 y1 z1
  obtain ⟨rfl, N1q, eh1⟩ := hQ1
  have N1 := Fr.app N0 N1q
  have e1 : T1.heap = h0 := eh1
  obtain ⟨cq2, kq2, q2a, q2b, q2c⟩ := isOf hZ e1 E_t0
  obtain ⟨_, _, ⟨T2, L2, k2, n2⟩, -, X2, ⟨Lc2, hQ2, l2, y2, z2⟩, st2⟩ := X1.virtualBack hx (y := (⟨"com/example/arrivals/arrivals/core/SequenceStatistics", "meanOptimum", "()D"⟩ : MethodName)) (z := (⟨"com/example/arrivals/arrivals/core/SequenceStatistics", "meanOptimum", "()D"⟩ : MethodName)) hown (mvT hZ (hw _ (List.mem_of_getElem? (i := 29) rfl))) (mvT hZ (hw _ (List.mem_of_getElem? (i := 30) rfl))) (notFace_of_selects (args := #[]) (mvT hZ (hw _ (List.mem_of_getElem? (i := 32) rfl)))) (mvT hZ (hw _ (List.mem_of_getElem? (i := 32) rfl))) (mvT hZ (hw _ (List.mem_of_getElem? (i := 31) rfl))) (by decide) (backOf (W := 2) (rm6_1 l Z a0 hw [] t0 w1 sp1 h0 n0 Z0 F_count_t0 F_sumOptimum_t0 F_weight_t0 nn21_12) hZ (hw _ (List.mem_of_getElem? (i := 33) rfl)) (hw _ (List.mem_of_getElem? (i := 2) rfl)) (by decide) (by decide)) q2a q2c (g := (mkF m 12 #[.val (.ref t0), .val (.double sw), .second, .val (.double on), .second, .val (.long op), .second, .val (.double ob2), .second, .unset, .unset, .unset, .unset, .unset, .unset] [(.ref t0), (.double (FP.l2d op))])) rfl (by rw [hml]; rfl) (Steps.refl _) (argsL := []) (rest := [(.double (FP.l2d op))]) (lenOf pd_0 rfl) rfl (by show 2 * 0 + _ ≤ _; exact Nat.le_of_eq rfl) (hb hby d4_12) (fun _ _ => ⟨rfl, e1, (by decide : 0 + 0 ≤ _), (by decide : 0 + 0 ≤ _)⟩)
  dsimp only [Pt.U, Pt.locs, Pt.cells, Pt.slots] at X2 l2 y2 z2 st2 hQ2
  subst l2 y2 z2
  obtain ⟨rfl, N2q, eh2⟩ := hQ2
  have N2 := Fr.app N1 N2q
  have e2 : T2.heap = h0 := eh2
  obtain ⟨T3, X3, e3, st3⟩ := getF X2 hx hZ hown (host := "") (Or.inl (hw _ (List.mem_of_getElem? (i := 27) rfl))) Via.refl e2 F_count_t0 (g := (mkF m 20 #[.val (.ref t0), .val (.double sw), .second, .val (.double on), .second, .val (.long op), .second, .val (.double ob2), .second, .val (.double pb2), .second, .unset, .unset, .unset, .unset] [(.ref t0), (.ref t0)])) rfl rfl (hb hby d4_20)
  obtain ⟨T4, h4, X4, e4, W4, st4⟩ := putF X3 hx hZ hown (host := "") (Or.inl (hw _ (List.mem_of_getElem? (i := 27) rfl))) Via.refl e3 F_count_t0 E_t0 (Or.inl (hw _ (List.mem_of_getElem? (i := 28) rfl))) (hw _ (List.mem_of_getElem? (i := 1) rfl)) (ty := .long) (by decide) rfl rfl (g := (mkF m 25 #[.val (.ref t0), .val (.double sw), .second, .val (.double on), .second, .val (.long op), .second, .val (.double ob2), .second, .val (.double pb2), .second, .unset, .unset, .unset, .unset] [(.long (2 : Int64)), (.ref t0)])) rfl rfl (hb hby d4_25)
  have f5 := E_t0.wr W4
  have f6 := F_weight_t0.other W4 (Or.inr (so_SequenceStatistics_weight_count hw))
  have f7 := F_sumOnline_t0.other W4 (Or.inr (so_SequenceStatistics_sumOnline_count hw))
  have f8 := F_sumOptimum_t0.other W4 (Or.inr (so_SequenceStatistics_sumOptimum_count hw))
  have f9 := F_comomentOnline_t0.other W4 (Or.inr (so_SequenceStatistics_comomentOnline_count hw))
  have f10 := F_comomentOptimum_t0.other W4 (Or.inr (so_SequenceStatistics_comomentOptimum_count hw))
  have f11 := F_comomentBoth_t0.other W4 (Or.inr (so_SequenceStatistics_comomentBoth_count hw))
  have f12 := F_positiveWeight_t0.other W4 (Or.inr (so_SequenceStatistics_positiveWeight_count hw))
  have f13 := F_weightedRatios_t0.other W4 (Or.inr (so_SequenceStatistics_weightedRatios_count hw))
  have f14 := F_zeroWeight_t0.other W4 (Or.inr (so_SequenceStatistics_zeroWeight_count hw))
  have K4 : Keep h0 h4 [t0] := (Keep.refl h0 [t0]).wr W4 (Or.inl (List.mem_of_getElem? (i := 0) rfl))
  have Zs4 := Nat.le_trans Z0 (Keep.of_wr W4).1
  have N4 := Fr.snoc X4 N2 g_t0
  have f15 : Fld Z h4 t0 "com/example/arrivals/arrivals/core/SequenceStatistics" "count" "J" (.long (2 : Int64)) := F_count_t0.same W4
  obtain ⟨T16, X16, e16, st16⟩ := getF X4 hx hZ hown (host := "") (Or.inl (hw _ (List.mem_of_getElem? (i := 34) rfl))) Via.refl e4 f6 (g := (mkF m 30 #[.val (.ref t0), .val (.double sw), .second, .val (.double on), .second, .val (.long op), .second, .val (.double ob2), .second, .val (.double pb2), .second, .unset, .unset, .unset, .unset] [(.ref t0), (.ref t0)])) rfl rfl (hb hby d4_30)
  obtain ⟨T17, h17, X17, e17, W17, st17⟩ := putF X16 hx hZ hown (host := "") (Or.inl (hw _ (List.mem_of_getElem? (i := 34) rfl))) Via.refl e16 f6 f5 (Or.inl (hw _ (List.mem_of_getElem? (i := 35) rfl))) (hw _ (List.mem_of_getElem? (i := 1) rfl)) (ty := .double) (by decide) rfl rfl (g := (mkF m 35 #[.val (.ref t0), .val (.double sw), .second, .val (.double on), .second, .val (.long op), .second, .val (.double ob2), .second, .val (.double pb2), .second, .unset, .unset, .unset, .unset] [(.double w2), (.ref t0)])) rfl rfl (hb hby d4_35)
  have f18 := f5.wr W17
  have f19 := f15.other W17 (Or.inr (so_SequenceStatistics_count_weight hw))
  have f20 := f7.other W17 (Or.inr (so_SequenceStatistics_sumOnline_weight hw))
  have f21 := f8.other W17 (Or.inr (so_SequenceStatistics_sumOptimum_weight hw))
  have f22 := f9.other W17 (Or.inr (so_SequenceStatistics_comomentOnline_weight hw))
  have f23 := f10.other W17 (Or.inr (so_SequenceStatistics_comomentOptimum_weight hw))
  have f24 := f11.other W17 (Or.inr (so_SequenceStatistics_comomentBoth_weight hw))
  have f25 := f12.other W17 (Or.inr (so_SequenceStatistics_positiveWeight_weight hw))
  have f26 := f13.other W17 (Or.inr (so_SequenceStatistics_weightedRatios_weight hw))
  have f27 := f14.other W17 (Or.inr (so_SequenceStatistics_zeroWeight_weight hw))
  have K17 : Keep h0 h17 [t0] := K4.wr W17 (Or.inl (List.mem_of_getElem? (i := 0) rfl))
  have Zs17 := Nat.le_trans Zs4 (Keep.of_wr W17).1
  have N17 := Fr.snoc X17 N4 g_t0
  have f28 : Fld Z h17 t0 "com/example/arrivals/arrivals/core/SequenceStatistics" "weight" "D" (.double w2) := f6.same W17
  obtain ⟨T29, X29, e29, st29⟩ := getF X17 hx hZ hown (host := "") (Or.inl (hw _ (List.mem_of_getElem? (i := 36) rfl))) Via.refl e17 f20 (g := (mkF m 40 #[.val (.ref t0), .val (.double sw), .second, .val (.double on), .second, .val (.long op), .second, .val (.double ob2), .second, .val (.double pb2), .second, .unset, .unset, .unset, .unset] [(.ref t0), (.ref t0)])) rfl rfl (hb hby d4_40)
  obtain ⟨T30, h30, X30, e30, W30, st30⟩ := putF X29 hx hZ hown (host := "") (Or.inl (hw _ (List.mem_of_getElem? (i := 36) rfl))) Via.refl e29 f20 f18 (Or.inl (hw _ (List.mem_of_getElem? (i := 37) rfl))) (hw _ (List.mem_of_getElem? (i := 1) rfl)) (ty := .double) (by decide) rfl rfl (g := (mkF m 47 #[.val (.ref t0), .val (.double sw), .second, .val (.double on), .second, .val (.long op), .second, .val (.double ob2), .second, .val (.double pb2), .second, .unset, .unset, .unset, .unset] [(.double so2), (.ref t0)])) rfl rfl (hb hby d4_47)
  have f31 := f18.wr W30
  have f32 := f19.other W30 (Or.inr (so_SequenceStatistics_count_sumOnline hw))
  have f33 := f28.other W30 (Or.inr (so_SequenceStatistics_weight_sumOnline hw))
  have f34 := f21.other W30 (Or.inr (so_SequenceStatistics_sumOptimum_sumOnline hw))
  have f35 := f22.other W30 (Or.inr (so_SequenceStatistics_comomentOnline_sumOnline hw))
  have f36 := f23.other W30 (Or.inr (so_SequenceStatistics_comomentOptimum_sumOnline hw))
  have f37 := f24.other W30 (Or.inr (so_SequenceStatistics_comomentBoth_sumOnline hw))
  have f38 := f25.other W30 (Or.inr (so_SequenceStatistics_positiveWeight_sumOnline hw))
  have f39 := f26.other W30 (Or.inr (so_SequenceStatistics_weightedRatios_sumOnline hw))
  have f40 := f27.other W30 (Or.inr (so_SequenceStatistics_zeroWeight_sumOnline hw))
  have K30 : Keep h0 h30 [t0] := K17.wr W30 (Or.inl (List.mem_of_getElem? (i := 0) rfl))
  have Zs30 := Nat.le_trans Zs17 (Keep.of_wr W30).1
  have N30 := Fr.snoc X30 N17 g_t0
  have f41 : Fld Z h30 t0 "com/example/arrivals/arrivals/core/SequenceStatistics" "sumOnline" "D" (.double so2) := f20.same W30
  obtain ⟨T42, X42, e42, st42⟩ := getF X30 hx hZ hown (host := "") (Or.inl (hw _ (List.mem_of_getElem? (i := 38) rfl))) Via.refl e30 f34 (g := (mkF m 52 #[.val (.ref t0), .val (.double sw), .second, .val (.double on), .second, .val (.long op), .second, .val (.double ob2), .second, .val (.double pb2), .second, .unset, .unset, .unset, .unset] [(.ref t0), (.ref t0)])) rfl rfl (hb hby d4_52)
  obtain ⟨T43, h43, X43, e43, W43, st43⟩ := putF X42 hx hZ hown (host := "") (Or.inl (hw _ (List.mem_of_getElem? (i := 38) rfl))) Via.refl e42 f34 f31 (Or.inl (hw _ (List.mem_of_getElem? (i := 39) rfl))) (hw _ (List.mem_of_getElem? (i := 1) rfl)) (ty := .double) (by decide) rfl rfl (g := (mkF m 61 #[.val (.ref t0), .val (.double sw), .second, .val (.double on), .second, .val (.long op), .second, .val (.double ob2), .second, .val (.double pb2), .second, .unset, .unset, .unset, .unset] [(.double sp2), (.ref t0)])) rfl rfl (hb hby d4_61)
  have f44 := f31.wr W43
  have f45 := f32.other W43 (Or.inr (so_SequenceStatistics_count_sumOptimum hw))
  have f46 := f33.other W43 (Or.inr (so_SequenceStatistics_weight_sumOptimum hw))
  have f47 := f41.other W43 (Or.inr (so_SequenceStatistics_sumOnline_sumOptimum hw))
  have f48 := f35.other W43 (Or.inr (so_SequenceStatistics_comomentOnline_sumOptimum hw))
  have f49 := f36.other W43 (Or.inr (so_SequenceStatistics_comomentOptimum_sumOptimum hw))
  have f50 := f37.other W43 (Or.inr (so_SequenceStatistics_comomentBoth_sumOptimum hw))
  have f51 := f38.other W43 (Or.inr (so_SequenceStatistics_positiveWeight_sumOptimum hw))
  have f52 := f39.other W43 (Or.inr (so_SequenceStatistics_weightedRatios_sumOptimum hw))
  have f53 := f40.other W43 (Or.inr (so_SequenceStatistics_zeroWeight_sumOptimum hw))
  have K43 : Keep h0 h43 [t0] := K30.wr W43 (Or.inl (List.mem_of_getElem? (i := 0) rfl))
  have Zs43 := Nat.le_trans Zs30 (Keep.of_wr W43).1
  have N43 := Fr.snoc X43 N30 g_t0
  have f54 : Fld Z h43 t0 "com/example/arrivals/arrivals/core/SequenceStatistics" "sumOptimum" "D" (.double sp2) := f34.same W43
  obtain ⟨cq55, kq55, q55a, q55b, q55c⟩ := isOf hZ e43 f44
  obtain ⟨_, _, ⟨T55, L55, k55, n55⟩, -, X55, ⟨Lc55, hQ55, l55, y55, z55⟩, st55⟩ := X43.virtualBack hx (y := (⟨"com/example/arrivals/arrivals/core/SequenceStatistics", "meanOnline", "()D"⟩ : MethodName)) (z := (⟨"com/example/arrivals/arrivals/core/SequenceStatistics", "meanOnline", "()D"⟩ : MethodName)) hown (mvT hZ (hw _ (List.mem_of_getElem? (i := 22) rfl))) (mvT hZ (hw _ (List.mem_of_getElem? (i := 23) rfl))) (notFace_of_selects (args := #[]) (mvT hZ (hw _ (List.mem_of_getElem? (i := 25) rfl)))) (mvT hZ (hw _ (List.mem_of_getElem? (i := 25) rfl))) (mvT hZ (hw _ (List.mem_of_getElem? (i := 24) rfl))) (by decide) (backOf (W := 2) (rm5_2 l Z a0 hw [] t0 w2 so2 h43 n0 Zs43 f45 f47 f46 nn21_66) hZ (hw _ (List.mem_of_getElem? (i := 26) rfl)) (hw _ (List.mem_of_getElem? (i := 2) rfl)) (by decide) (by decide)) q55a q55c (g := (mkF m 66 #[.val (.ref t0), .val (.double sw), .second, .val (.double on), .second, .val (.long op), .second, .val (.double ob2), .second, .val (.double pb2), .second, .unset, .unset, .unset, .unset] [(.ref t0), (.double on)])) rfl (by rw [hml]; rfl) (Steps.refl _) (argsL := []) (rest := [(.double on)]) (lenOf pd_0 rfl) rfl (by show 2 * 0 + _ ≤ _; exact Nat.le_of_eq rfl) (hb hby d4_66) (fun _ _ => ⟨rfl, e43, (by decide : 0 + 0 ≤ _), (by decide : 0 + 0 ≤ _)⟩)
  dsimp only [Pt.U, Pt.locs, Pt.cells, Pt.slots] at X55 l55 y55 z55 st55 hQ55
  subst l55 y55 z55
  obtain ⟨rfl, N55q, eh55⟩ := hQ55
  have N55 := Fr.app N43 N55q
  have e55 : T55.heap = h43 := eh55
  obtain ⟨cq56, kq56, q56a, q56b, q56c⟩ := isOf hZ e55 f44
  obtain ⟨_, _, ⟨T56, L56, k56, n56⟩, -, X56, ⟨Lc56, hQ56, l56, y56, z56⟩, st56⟩ := X55.virtualBack hx (y := (⟨"com/example/arrivals/arrivals/core/SequenceStatistics", "meanOptimum", "()D"⟩ : MethodName)) (z := (⟨"com/example/arrivals/arrivals/core/SequenceStatistics", "meanOptimum", "()D"⟩ : MethodName)) hown (mvT hZ (hw _ (List.mem_of_getElem? (i := 29) rfl))) (mvT hZ (hw _ (List.mem_of_getElem? (i := 30) rfl))) (notFace_of_selects (args := #[]) (mvT hZ (hw _ (List.mem_of_getElem? (i := 32) rfl)))) (mvT hZ (hw _ (List.mem_of_getElem? (i := 32) rfl))) (mvT hZ (hw _ (List.mem_of_getElem? (i := 31) rfl))) (by decide) (backOf (W := 2) (rm6_2 l Z a0 hw [] t0 w2 sp2 h43 n0 Zs43 f45 f54 f46 nn21_76) hZ (hw _ (List.mem_of_getElem? (i := 33) rfl)) (hw _ (List.mem_of_getElem? (i := 2) rfl)) (by decide) (by decide)) q56a q56c (g := (mkF m 76 #[.val (.ref t0), .val (.double sw), .second, .val (.double on), .second, .val (.long op), .second, .val (.double ob2), .second, .val (.double pb2), .second, .val (.double oa2), .second, .unset, .unset] [(.ref t0), (.double (FP.l2d op))])) rfl (by rw [hml]; rfl) (Steps.refl _) (argsL := []) (rest := [(.double (FP.l2d op))]) (lenOf pd_0 rfl) rfl (by show 2 * 0 + _ ≤ _; exact Nat.le_of_eq rfl) (hb hby d4_76) (fun _ _ => ⟨rfl, e55, (by decide : 0 + 0 ≤ _), (by decide : 0 + 0 ≤ _)⟩)
  dsimp only [Pt.U, Pt.locs, Pt.cells, Pt.slots] at X56 l56 y56 z56 st56 hQ56
  subst l56 y56 z56
  obtain ⟨rfl, N56q, eh56⟩ := hQ56
  have N56 := Fr.app N55 N56q
  have e56 : T56.heap = h43 := eh56
  obtain ⟨T57, X57, e57, st57⟩ := getF X56 hx hZ hown (host := "") (Or.inl (hw _ (List.mem_of_getElem? (i := 40) rfl))) Via.refl e56 f48 (g := (mkF m 84 #[.val (.ref t0), .val (.double sw), .second, .val (.double on), .second, .val (.long op), .second, .val (.double ob2), .second, .val (.double pb2), .second, .val (.double oa2), .second, .val (.double pa2), .second] [(.ref t0), (.ref t0)])) rfl rfl (hb hby d4_84)
  obtain ⟨T58, h58, X58, e58, W58, st58⟩ := putF X57 hx hZ hown (host := "") (Or.inl (hw _ (List.mem_of_getElem? (i := 40) rfl))) Via.refl e57 f48 f44 (Or.inl (hw _ (List.mem_of_getElem? (i := 41) rfl))) (hw _ (List.mem_of_getElem? (i := 1) rfl)) (ty := .double) (by decide) rfl rfl (g := (mkF m 95 #[.val (.ref t0), .val (.double sw), .second, .val (.double on), .second, .val (.long op), .second, .val (.double ob2), .second, .val (.double pb2), .second, .val (.double oa2), .second, .val (.double pa2), .second] [(.double ma2), (.ref t0)])) rfl rfl (hb hby d4_95)
  have f59 := f44.wr W58
  have f60 := f45.other W58 (Or.inr (so_SequenceStatistics_count_comomentOnline hw))
  have f61 := f46.other W58 (Or.inr (so_SequenceStatistics_weight_comomentOnline hw))
  have f62 := f47.other W58 (Or.inr (so_SequenceStatistics_sumOnline_comomentOnline hw))
  have f63 := f54.other W58 (Or.inr (so_SequenceStatistics_sumOptimum_comomentOnline hw))
  have f64 := f49.other W58 (Or.inr (so_SequenceStatistics_comomentOptimum_comomentOnline hw))
  have f65 := f50.other W58 (Or.inr (so_SequenceStatistics_comomentBoth_comomentOnline hw))
  have f66 := f51.other W58 (Or.inr (so_SequenceStatistics_positiveWeight_comomentOnline hw))
  have f67 := f52.other W58 (Or.inr (so_SequenceStatistics_weightedRatios_comomentOnline hw))
  have f68 := f53.other W58 (Or.inr (so_SequenceStatistics_zeroWeight_comomentOnline hw))
  have K58 : Keep h0 h58 [t0] := K43.wr W58 (Or.inl (List.mem_of_getElem? (i := 0) rfl))
  have Zs58 := Nat.le_trans Zs43 (Keep.of_wr W58).1
  have N58 := Fr.snoc X58 N56 g_t0
  have f69 : Fld Z h58 t0 "com/example/arrivals/arrivals/core/SequenceStatistics" "comomentOnline" "D" (.double ma2) := f48.same W58
  obtain ⟨T70, X70, e70, st70⟩ := getF X58 hx hZ hown (host := "") (Or.inl (hw _ (List.mem_of_getElem? (i := 42) rfl))) Via.refl e58 f64 (g := (mkF m 100 #[.val (.ref t0), .val (.double sw), .second, .val (.double on), .second, .val (.long op), .second, .val (.double ob2), .second, .val (.double pb2), .second, .val (.double oa2), .second, .val (.double pa2), .second] [(.ref t0), (.ref t0)])) rfl rfl (hb hby d4_100)
  obtain ⟨T71, h71, X71, e71, W71, st71⟩ := putF X70 hx hZ hown (host := "") (Or.inl (hw _ (List.mem_of_getElem? (i := 42) rfl))) Via.refl e70 f64 f59 (Or.inl (hw _ (List.mem_of_getElem? (i := 43) rfl))) (hw _ (List.mem_of_getElem? (i := 1) rfl)) (ty := .double) (by decide) rfl rfl (g := (mkF m 111 #[.val (.ref t0), .val (.double sw), .second, .val (.double on), .second, .val (.long op), .second, .val (.double ob2), .second, .val (.double pb2), .second, .val (.double oa2), .second, .val (.double pa2), .second] [(.double mb2), (.ref t0)])) rfl rfl (hb hby d4_111)
  have f72 := f59.wr W71
  have f73 := f60.other W71 (Or.inr (so_SequenceStatistics_count_comomentOptimum hw))
  have f74 := f61.other W71 (Or.inr (so_SequenceStatistics_weight_comomentOptimum hw))
  have f75 := f62.other W71 (Or.inr (so_SequenceStatistics_sumOnline_comomentOptimum hw))
  have f76 := f63.other W71 (Or.inr (so_SequenceStatistics_sumOptimum_comomentOptimum hw))
  have f77 := f69.other W71 (Or.inr (so_SequenceStatistics_comomentOnline_comomentOptimum hw))
  have f78 := f65.other W71 (Or.inr (so_SequenceStatistics_comomentBoth_comomentOptimum hw))
  have f79 := f66.other W71 (Or.inr (so_SequenceStatistics_positiveWeight_comomentOptimum hw))
  have f80 := f67.other W71 (Or.inr (so_SequenceStatistics_weightedRatios_comomentOptimum hw))
  have f81 := f68.other W71 (Or.inr (so_SequenceStatistics_zeroWeight_comomentOptimum hw))
  have K71 : Keep h0 h71 [t0] := K58.wr W71 (Or.inl (List.mem_of_getElem? (i := 0) rfl))
  have Zs71 := Nat.le_trans Zs58 (Keep.of_wr W71).1
  have N71 := Fr.snoc X71 N58 g_t0
  have f82 : Fld Z h71 t0 "com/example/arrivals/arrivals/core/SequenceStatistics" "comomentOptimum" "D" (.double mb2) := f64.same W71
  obtain ⟨T83, X83, e83, st83⟩ := getF X71 hx hZ hown (host := "") (Or.inl (hw _ (List.mem_of_getElem? (i := 44) rfl))) Via.refl e71 f78 (g := (mkF m 116 #[.val (.ref t0), .val (.double sw), .second, .val (.double on), .second, .val (.long op), .second, .val (.double ob2), .second, .val (.double pb2), .second, .val (.double oa2), .second, .val (.double pa2), .second] [(.ref t0), (.ref t0)])) rfl rfl (hb hby d4_116)
  obtain ⟨T84, h84, X84, e84, W84, st84⟩ := putF X83 hx hZ hown (host := "") (Or.inl (hw _ (List.mem_of_getElem? (i := 44) rfl))) Via.refl e83 f78 f72 (Or.inl (hw _ (List.mem_of_getElem? (i := 45) rfl))) (hw _ (List.mem_of_getElem? (i := 1) rfl)) (ty := .double) (by decide) rfl rfl (g := (mkF m 127 #[.val (.ref t0), .val (.double sw), .second, .val (.double on), .second, .val (.long op), .second, .val (.double ob2), .second, .val (.double pb2), .second, .val (.double oa2), .second, .val (.double pa2), .second] [(.double mc2), (.ref t0)])) rfl rfl (hb hby d4_127)
  have f85 := f72.wr W84
  have f86 := f73.other W84 (Or.inr (so_SequenceStatistics_count_comomentBoth hw))
  have f87 := f74.other W84 (Or.inr (so_SequenceStatistics_weight_comomentBoth hw))
  have f88 := f75.other W84 (Or.inr (so_SequenceStatistics_sumOnline_comomentBoth hw))
  have f89 := f76.other W84 (Or.inr (so_SequenceStatistics_sumOptimum_comomentBoth hw))
  have f90 := f77.other W84 (Or.inr (so_SequenceStatistics_comomentOnline_comomentBoth hw))
  have f91 := f82.other W84 (Or.inr (so_SequenceStatistics_comomentOptimum_comomentBoth hw))
  have f92 := f79.other W84 (Or.inr (so_SequenceStatistics_positiveWeight_comomentBoth hw))
  have f93 := f80.other W84 (Or.inr (so_SequenceStatistics_weightedRatios_comomentBoth hw))
  have f94 := f81.other W84 (Or.inr (so_SequenceStatistics_zeroWeight_comomentBoth hw))
  have K84 : Keep h0 h84 [t0] := K71.wr W84 (Or.inl (List.mem_of_getElem? (i := 0) rfl))
  have Zs84 := Nat.le_trans Zs71 (Keep.of_wr W84).1
  have N84 := Fr.snoc X84 N71 g_t0
  have f95 : Fld Z h84 t0 "com/example/arrivals/arrivals/core/SequenceStatistics" "comomentBoth" "D" (.double mc2) := f78.same W84
  obtain ⟨T96, X96, e96, st96⟩ := getF X84 hx hZ hown (host := "") (Or.inl (hw _ (List.mem_of_getElem? (i := 14) rfl))) Via.refl e84 f92 (g := (mkF m 139 #[.val (.ref t0), .val (.double sw), .second, .val (.double on), .second, .val (.long op), .second, .val (.double ob2), .second, .val (.double pb2), .second, .val (.double oa2), .second, .val (.double pa2), .second] [(.ref t0), (.ref t0)])) rfl rfl (hb hby d4_139)
  obtain ⟨T97, h97, X97, e97, W97, st97⟩ := putF X96 hx hZ hown (host := "") (Or.inl (hw _ (List.mem_of_getElem? (i := 14) rfl))) Via.refl e96 f92 f85 (Or.inl (hw _ (List.mem_of_getElem? (i := 15) rfl))) (hw _ (List.mem_of_getElem? (i := 1) rfl)) (ty := .double) (by decide) rfl rfl (g := (mkF m 144 #[.val (.ref t0), .val (.double sw), .second, .val (.double on), .second, .val (.long op), .second, .val (.double ob2), .second, .val (.double pb2), .second, .val (.double oa2), .second, .val (.double pa2), .second] [(.double pw2), (.ref t0)])) rfl rfl (hb hby d4_144)
  have f98 := f85.wr W97
  have f99 := f86.other W97 (Or.inr (so_SequenceStatistics_count_positiveWeight hw))
  have f100 := f87.other W97 (Or.inr (so_SequenceStatistics_weight_positiveWeight hw))
  have f101 := f88.other W97 (Or.inr (so_SequenceStatistics_sumOnline_positiveWeight hw))
  have f102 := f89.other W97 (Or.inr (so_SequenceStatistics_sumOptimum_positiveWeight hw))
  have f103 := f90.other W97 (Or.inr (so_SequenceStatistics_comomentOnline_positiveWeight hw))
  have f104 := f91.other W97 (Or.inr (so_SequenceStatistics_comomentOptimum_positiveWeight hw))
  have f105 := f95.other W97 (Or.inr (so_SequenceStatistics_comomentBoth_positiveWeight hw))
  have f106 := f93.other W97 (Or.inr (so_SequenceStatistics_weightedRatios_positiveWeight hw))
  have f107 := f94.other W97 (Or.inr (so_SequenceStatistics_zeroWeight_positiveWeight hw))
  have K97 : Keep h0 h97 [t0] := K84.wr W97 (Or.inl (List.mem_of_getElem? (i := 0) rfl))
  have Zs97 := Nat.le_trans Zs84 (Keep.of_wr W97).1
  have N97 := Fr.snoc X97 N84 g_t0
  have f108 : Fld Z h97 t0 "com/example/arrivals/arrivals/core/SequenceStatistics" "positiveWeight" "D" (.double pw2) := f92.same W97
  obtain ⟨T109, X109, e109, st109⟩ := getF X97 hx hZ hown (host := "") (Or.inl (hw _ (List.mem_of_getElem? (i := 48) rfl))) Via.refl e97 f106 (g := (mkF m 149 #[.val (.ref t0), .val (.double sw), .second, .val (.double on), .second, .val (.long op), .second, .val (.double ob2), .second, .val (.double pb2), .second, .val (.double oa2), .second, .val (.double pa2), .second] [(.ref t0), (.ref t0)])) rfl rfl (hb hby d4_149)
  obtain ⟨T110, h110, X110, e110, W110, st110⟩ := putF X109 hx hZ hown (host := "") (Or.inl (hw _ (List.mem_of_getElem? (i := 48) rfl))) Via.refl e109 f106 f98 (Or.inl (hw _ (List.mem_of_getElem? (i := 49) rfl))) (hw _ (List.mem_of_getElem? (i := 1) rfl)) (ty := .double) (by decide) rfl rfl (g := (mkF m 160 #[.val (.ref t0), .val (.double sw), .second, .val (.double on), .second, .val (.long op), .second, .val (.double ob2), .second, .val (.double pb2), .second, .val (.double oa2), .second, .val (.double pa2), .second] [(.double wr2), (.ref t0)])) rfl rfl (hb hby d4_160)
  have f111 := f98.wr W110
  have f112 := f99.other W110 (Or.inr (so_SequenceStatistics_count_weightedRatios hw))
  have f113 := f100.other W110 (Or.inr (so_SequenceStatistics_weight_weightedRatios hw))
  have f114 := f101.other W110 (Or.inr (so_SequenceStatistics_sumOnline_weightedRatios hw))
  have f115 := f102.other W110 (Or.inr (so_SequenceStatistics_sumOptimum_weightedRatios hw))
  have f116 := f103.other W110 (Or.inr (so_SequenceStatistics_comomentOnline_weightedRatios hw))
  have f117 := f104.other W110 (Or.inr (so_SequenceStatistics_comomentOptimum_weightedRatios hw))
  have f118 := f105.other W110 (Or.inr (so_SequenceStatistics_comomentBoth_weightedRatios hw))
  have f119 := f108.other W110 (Or.inr (so_SequenceStatistics_positiveWeight_weightedRatios hw))
  have f120 := f107.other W110 (Or.inr (so_SequenceStatistics_zeroWeight_weightedRatios hw))
  have K110 : Keep h0 h110 [t0] := K97.wr W110 (Or.inl (List.mem_of_getElem? (i := 0) rfl))
  have Zs110 := Nat.le_trans Zs97 (Keep.of_wr W110).1
  have N110 := Fr.snoc X110 N97 g_t0
  have f121 : Fld Z h110 t0 "com/example/arrivals/arrivals/core/SequenceStatistics" "weightedRatios" "D" (.double wr2) := f106.same W110
  obtain ⟨fs, hr, hrun, hended, hW, hsame⟩ := X110.leave (v := none) (fun _ => rfl)
  refine ⟨_, _, pre0 _ ?_, hrun, hended, _, _, rfl, ?_, ⟨_, rfl⟩, hW, hsame.mono (by decide) (by decide)⟩
  · show Steps p.tables e below (s₁.setTop (mkF m 0 #[.val (.ref t0), .val (.double sw), .second, .val (.double on), .second, .val (.long op), .second, .unset, .unset, .unset, .unset, .unset, .unset, .unset, .unset] [])) _
    refine XS.dloadN X0.here hx rfl (hb hby d4_0) rfl ?_
    show Steps p.tables e below (s₁.setTop (mkF m 1 #[.val (.ref t0), .val (.double sw), .second, .val (.double on), .second, .val (.long op), .second, .unset, .unset, .unset, .unset, .unset, .unset, .unset, .unset] [(.double on)])) _
    refine XS.aloadN X0.here hx rfl (hb hby d4_1) rfl rfl ?_
    show Steps p.tables e below (s₁.setTop (mkF m 2 #[.val (.ref t0), .val (.double sw), .second, .val (.double on), .second, .val (.long op), .second, .unset, .unset, .unset, .unset, .unset, .unset, .unset, .unset] [(.ref t0), (.double on)])) _
    refine st1.trans ?_
    show Steps p.tables e below (T1.setTop (mkF m 5 #[.val (.ref t0), .val (.double sw), .second, .val (.double on), .second, .val (.long op), .second, .unset, .unset, .unset, .unset, .unset, .unset, .unset, .unset] [(.double (FP.ddiv so1 w1)), (.double on)])) _
    refine XS.dsubS X1.here hx rfl (hb hby d4_5) rfl nn5 (v := ob2) hq5 ?_
    show Steps p.tables e below (T1.setTop (mkF m 6 #[.val (.ref t0), .val (.double sw), .second, .val (.double on), .second, .val (.long op), .second, .unset, .unset, .unset, .unset, .unset, .unset, .unset, .unset] [(.double ob2)])) _
    refine XS.dstore X1.here hx rfl (hb hby d4_6) rfl (l' := #[.val (.ref t0), .val (.double sw), .second, .val (.double on), .second, .val (.long op), .second, .val (.double ob2), .second, .unset, .unset, .unset, .unset, .unset, .unset]) rfl ?_
    show Steps p.tables e below (T1.setTop (mkF m 8 #[.val (.ref t0), .val (.double sw), .second, .val (.double on), .second, .val (.long op), .second, .val (.double ob2), .second, .unset, .unset, .unset, .unset, .unset, .unset] [])) _
    refine XS.lload X1.here hx rfl (hb hby d4_8) rfl ?_
    show Steps p.tables e below (T1.setTop (mkF m 10 #[.val (.ref t0), .val (.double sw), .second, .val (.double on), .second, .val (.long op), .second, .val (.double ob2), .second, .unset, .unset, .unset, .unset, .unset, .unset] [(.long op)])) _
    refine XS.l2dS X1.here hx rfl (hb hby d4_10) rfl (v := (FP.l2d op)) rfl ?_
    show Steps p.tables e below (T1.setTop (mkF m 11 #[.val (.ref t0), .val (.double sw), .second, .val (.double on), .second, .val (.long op), .second, .val (.double ob2), .second, .unset, .unset, .unset, .unset, .unset, .unset] [(.double (FP.l2d op))])) _
    refine XS.aloadN X1.here hx rfl (hb hby d4_11) rfl rfl ?_
    show Steps p.tables e below (T1.setTop (mkF m 12 #[.val (.ref t0), .val (.double sw), .second, .val (.double on), .second, .val (.long op), .second, .val (.double ob2), .second, .unset, .unset, .unset, .unset, .unset, .unset] [(.ref t0), (.double (FP.l2d op))])) _
    refine st2.trans ?_
    show Steps p.tables e below (T2.setTop (mkF m 15 #[.val (.ref t0), .val (.double sw), .second, .val (.double on), .second, .val (.long op), .second, .val (.double ob2), .second, .unset, .unset, .unset, .unset, .unset, .unset] [(.double (FP.ddiv sp1 w1)), (.double (FP.l2d op))])) _
    refine XS.dsubS X2.here hx rfl (hb hby d4_15) rfl nn15 (v := pb2) hq15 ?_
    show Steps p.tables e below (T2.setTop (mkF m 16 #[.val (.ref t0), .val (.double sw), .second, .val (.double on), .second, .val (.long op), .second, .val (.double ob2), .second, .unset, .unset, .unset, .unset, .unset, .unset] [(.double pb2)])) _
    refine XS.dstore X2.here hx rfl (hb hby d4_16) rfl (l' := #[.val (.ref t0), .val (.double sw), .second, .val (.double on), .second, .val (.long op), .second, .val (.double ob2), .second, .val (.double pb2), .second, .unset, .unset, .unset, .unset]) rfl ?_
    show Steps p.tables e below (T2.setTop (mkF m 18 #[.val (.ref t0), .val (.double sw), .second, .val (.double on), .second, .val (.long op), .second, .val (.double ob2), .second, .val (.double pb2), .second, .unset, .unset, .unset, .unset] [])) _
    refine XS.aloadN X2.here hx rfl (hb hby d4_18) rfl rfl ?_
    show Steps p.tables e below (T2.setTop (mkF m 19 #[.val (.ref t0), .val (.double sw), .second, .val (.double on), .second, .val (.long op), .second, .val (.double ob2), .second, .val (.double pb2), .second, .unset, .unset, .unset, .unset] [(.ref t0)])) _
    refine XS.dup X2.here hx rfl (hb hby d4_19) rfl rfl ?_
    show Steps p.tables e below (T2.setTop (mkF m 20 #[.val (.ref t0), .val (.double sw), .second, .val (.double on), .second, .val (.long op), .second, .val (.double ob2), .second, .val (.double pb2), .second, .unset, .unset, .unset, .unset] [(.ref t0), (.ref t0)])) _
    refine st3 _ ?_
    show Steps p.tables e below (T3.setTop (mkF m 23 #[.val (.ref t0), .val (.double sw), .second, .val (.double on), .second, .val (.long op), .second, .val (.double ob2), .second, .val (.double pb2), .second, .unset, .unset, .unset, .unset] [(.long (1 : Int64)), (.ref t0)])) _
    refine XS.lconst X3.here hx rfl (hb hby d4_23) ?_
    show Steps p.tables e below (T3.setTop (mkF m 24 #[.val (.ref t0), .val (.double sw), .second, .val (.double on), .second, .val (.long op), .second, .val (.double ob2), .second, .val (.double pb2), .second, .unset, .unset, .unset, .unset] [(.long (1 : Int64)), (.long (1 : Int64)), (.ref t0)])) _
    refine XS.ladd X3.here hx rfl (hb hby d4_24) rfl ?_
    show Steps p.tables e below (T3.setTop (mkF m 25 #[.val (.ref t0), .val (.double sw), .second, .val (.double on), .second, .val (.long op), .second, .val (.double ob2), .second, .val (.double pb2), .second, .unset, .unset, .unset, .unset] [(.long ((1 : Int64) + (1 : Int64))), (.ref t0)])) _
    rw [show ((1 : Int64) + (1 : Int64)) = (2 : Int64) by decide]
    show Steps p.tables e below (T3.setTop (mkF m 25 #[.val (.ref t0), .val (.double sw), .second, .val (.double on), .second, .val (.long op), .second, .val (.double ob2), .second, .val (.double pb2), .second, .unset, .unset, .unset, .unset] [(.long (2 : Int64)), (.ref t0)])) _
    refine st4 _ ?_
    show Steps p.tables e below (T4.setTop (mkF m 28 #[.val (.ref t0), .val (.double sw), .second, .val (.double on), .second, .val (.long op), .second, .val (.double ob2), .second, .val (.double pb2), .second, .unset, .unset, .unset, .unset] [])) _
    refine XS.aloadN X4.here hx rfl (hb hby d4_28) rfl rfl ?_
    show Steps p.tables e below (T4.setTop (mkF m 29 #[.val (.ref t0), .val (.double sw), .second, .val (.double on), .second, .val (.long op), .second, .val (.double ob2), .second, .val (.double pb2), .second, .unset, .unset, .unset, .unset] [(.ref t0)])) _
    refine XS.dup X4.here hx rfl (hb hby d4_29) rfl rfl ?_
    show Steps p.tables e below (T4.setTop (mkF m 30 #[.val (.ref t0), .val (.double sw), .second, .val (.double on), .second, .val (.long op), .second, .val (.double ob2), .second, .val (.double pb2), .second, .unset, .unset, .unset, .unset] [(.ref t0), (.ref t0)])) _
    refine st16 _ ?_
    show Steps p.tables e below (T16.setTop (mkF m 33 #[.val (.ref t0), .val (.double sw), .second, .val (.double on), .second, .val (.long op), .second, .val (.double ob2), .second, .val (.double pb2), .second, .unset, .unset, .unset, .unset] [(.double w1), (.ref t0)])) _
    refine XS.dloadN X16.here hx rfl (hb hby d4_33) rfl ?_
    show Steps p.tables e below (T16.setTop (mkF m 34 #[.val (.ref t0), .val (.double sw), .second, .val (.double on), .second, .val (.long op), .second, .val (.double ob2), .second, .val (.double pb2), .second, .unset, .unset, .unset, .unset] [(.double sw), (.double w1), (.ref t0)])) _
    refine XS.daddS X16.here hx rfl (hb hby d4_34) rfl nn34 (v := w2) hq34 ?_
    show Steps p.tables e below (T16.setTop (mkF m 35 #[.val (.ref t0), .val (.double sw), .second, .val (.double on), .second, .val (.long op), .second, .val (.double ob2), .second, .val (.double pb2), .second, .unset, .unset, .unset, .unset] [(.double w2), (.ref t0)])) _
    refine st17 _ ?_
    show Steps p.tables e below (T17.setTop (mkF m 38 #[.val (.ref t0), .val (.double sw), .second, .val (.double on), .second, .val (.long op), .second, .val (.double ob2), .second, .val (.double pb2), .second, .unset, .unset, .unset, .unset] [])) _
    refine XS.aloadN X17.here hx rfl (hb hby d4_38) rfl rfl ?_
    show Steps p.tables e below (T17.setTop (mkF m 39 #[.val (.ref t0), .val (.double sw), .second, .val (.double on), .second, .val (.long op), .second, .val (.double ob2), .second, .val (.double pb2), .second, .unset, .unset, .unset, .unset] [(.ref t0)])) _
    refine XS.dup X17.here hx rfl (hb hby d4_39) rfl rfl ?_
    show Steps p.tables e below (T17.setTop (mkF m 40 #[.val (.ref t0), .val (.double sw), .second, .val (.double on), .second, .val (.long op), .second, .val (.double ob2), .second, .val (.double pb2), .second, .unset, .unset, .unset, .unset] [(.ref t0), (.ref t0)])) _
    refine st29 _ ?_
    show Steps p.tables e below (T29.setTop (mkF m 43 #[.val (.ref t0), .val (.double sw), .second, .val (.double on), .second, .val (.long op), .second, .val (.double ob2), .second, .val (.double pb2), .second, .unset, .unset, .unset, .unset] [(.double so1), (.ref t0)])) _
    refine XS.dloadN X29.here hx rfl (hb hby d4_43) rfl ?_
    show Steps p.tables e below (T29.setTop (mkF m 44 #[.val (.ref t0), .val (.double sw), .second, .val (.double on), .second, .val (.long op), .second, .val (.double ob2), .second, .val (.double pb2), .second, .unset, .unset, .unset, .unset] [(.double sw), (.double so1), (.ref t0)])) _
    refine XS.dloadN X29.here hx rfl (hb hby d4_44) rfl ?_
    show Steps p.tables e below (T29.setTop (mkF m 45 #[.val (.ref t0), .val (.double sw), .second, .val (.double on), .second, .val (.long op), .second, .val (.double ob2), .second, .val (.double pb2), .second, .unset, .unset, .unset, .unset] [(.double on), (.double sw), (.double so1), (.ref t0)])) _
    refine XS.dmulS X29.here hx rfl (hb hby d4_45) rfl nn45 (v := (FP.dmul sw on)) rfl ?_
    show Steps p.tables e below (T29.setTop (mkF m 46 #[.val (.ref t0), .val (.double sw), .second, .val (.double on), .second, .val (.long op), .second, .val (.double ob2), .second, .val (.double pb2), .second, .unset, .unset, .unset, .unset] [(.double (FP.dmul sw on)), (.double so1), (.ref t0)])) _
    refine XS.daddS X29.here hx rfl (hb hby d4_46) rfl nn46 (v := so2) hq46 ?_
    show Steps p.tables e below (T29.setTop (mkF m 47 #[.val (.ref t0), .val (.double sw), .second, .val (.double on), .second, .val (.long op), .second, .val (.double ob2), .second, .val (.double pb2), .second, .unset, .unset, .unset, .unset] [(.double so2), (.ref t0)])) _
    refine st30 _ ?_
    show Steps p.tables e below (T30.setTop (mkF m 50 #[.val (.ref t0), .val (.double sw), .second, .val (.double on), .second, .val (.long op), .second, .val (.double ob2), .second, .val (.double pb2), .second, .unset, .unset, .unset, .unset] [])) _
    refine XS.aloadN X30.here hx rfl (hb hby d4_50) rfl rfl ?_
    show Steps p.tables e below (T30.setTop (mkF m 51 #[.val (.ref t0), .val (.double sw), .second, .val (.double on), .second, .val (.long op), .second, .val (.double ob2), .second, .val (.double pb2), .second, .unset, .unset, .unset, .unset] [(.ref t0)])) _
    refine XS.dup X30.here hx rfl (hb hby d4_51) rfl rfl ?_
    show Steps p.tables e below (T30.setTop (mkF m 52 #[.val (.ref t0), .val (.double sw), .second, .val (.double on), .second, .val (.long op), .second, .val (.double ob2), .second, .val (.double pb2), .second, .unset, .unset, .unset, .unset] [(.ref t0), (.ref t0)])) _
    refine st42 _ ?_
    show Steps p.tables e below (T42.setTop (mkF m 55 #[.val (.ref t0), .val (.double sw), .second, .val (.double on), .second, .val (.long op), .second, .val (.double ob2), .second, .val (.double pb2), .second, .unset, .unset, .unset, .unset] [(.double sp1), (.ref t0)])) _
    refine XS.dloadN X42.here hx rfl (hb hby d4_55) rfl ?_
    show Steps p.tables e below (T42.setTop (mkF m 56 #[.val (.ref t0), .val (.double sw), .second, .val (.double on), .second, .val (.long op), .second, .val (.double ob2), .second, .val (.double pb2), .second, .unset, .unset, .unset, .unset] [(.double sw), (.double sp1), (.ref t0)])) _
    refine XS.lload X42.here hx rfl (hb hby d4_56) rfl ?_
    show Steps p.tables e below (T42.setTop (mkF m 58 #[.val (.ref t0), .val (.double sw), .second, .val (.double on), .second, .val (.long op), .second, .val (.double ob2), .second, .val (.double pb2), .second, .unset, .unset, .unset, .unset] [(.long op), (.double sw), (.double sp1), (.ref t0)])) _
    refine XS.l2dS X42.here hx rfl (hb hby d4_58) rfl (v := (FP.l2d op)) rfl ?_
    show Steps p.tables e below (T42.setTop (mkF m 59 #[.val (.ref t0), .val (.double sw), .second, .val (.double on), .second, .val (.long op), .second, .val (.double ob2), .second, .val (.double pb2), .second, .unset, .unset, .unset, .unset] [(.double (FP.l2d op)), (.double sw), (.double sp1), (.ref t0)])) _
    refine XS.dmulS X42.here hx rfl (hb hby d4_59) rfl nn59 (v := (FP.dmul sw (FP.l2d op))) rfl ?_
    show Steps p.tables e below (T42.setTop (mkF m 60 #[.val (.ref t0), .val (.double sw), .second, .val (.double on), .second, .val (.long op), .second, .val (.double ob2), .second, .val (.double pb2), .second, .unset, .unset, .unset, .unset] [(.double (FP.dmul sw (FP.l2d op))), (.double sp1), (.ref t0)])) _
    refine XS.daddS X42.here hx rfl (hb hby d4_60) rfl nn60 (v := sp2) hq60 ?_
    show Steps p.tables e below (T42.setTop (mkF m 61 #[.val (.ref t0), .val (.double sw), .second, .val (.double on), .second, .val (.long op), .second, .val (.double ob2), .second, .val (.double pb2), .second, .unset, .unset, .unset, .unset] [(.double sp2), (.ref t0)])) _
    refine st43 _ ?_
    show Steps p.tables e below (T43.setTop (mkF m 64 #[.val (.ref t0), .val (.double sw), .second, .val (.double on), .second, .val (.long op), .second, .val (.double ob2), .second, .val (.double pb2), .second, .unset, .unset, .unset, .unset] [])) _
    refine XS.dloadN X43.here hx rfl (hb hby d4_64) rfl ?_
    show Steps p.tables e below (T43.setTop (mkF m 65 #[.val (.ref t0), .val (.double sw), .second, .val (.double on), .second, .val (.long op), .second, .val (.double ob2), .second, .val (.double pb2), .second, .unset, .unset, .unset, .unset] [(.double on)])) _
    refine XS.aloadN X43.here hx rfl (hb hby d4_65) rfl rfl ?_
    show Steps p.tables e below (T43.setTop (mkF m 66 #[.val (.ref t0), .val (.double sw), .second, .val (.double on), .second, .val (.long op), .second, .val (.double ob2), .second, .val (.double pb2), .second, .unset, .unset, .unset, .unset] [(.ref t0), (.double on)])) _
    refine st55.trans ?_
    show Steps p.tables e below (T55.setTop (mkF m 69 #[.val (.ref t0), .val (.double sw), .second, .val (.double on), .second, .val (.long op), .second, .val (.double ob2), .second, .val (.double pb2), .second, .unset, .unset, .unset, .unset] [(.double (FP.ddiv so2 w2)), (.double on)])) _
    refine XS.dsubS X55.here hx rfl (hb hby d4_69) rfl nn69 (v := oa2) hq69 ?_
    show Steps p.tables e below (T55.setTop (mkF m 70 #[.val (.ref t0), .val (.double sw), .second, .val (.double on), .second, .val (.long op), .second, .val (.double ob2), .second, .val (.double pb2), .second, .unset, .unset, .unset, .unset] [(.double oa2)])) _
    refine XS.dstore X55.here hx rfl (hb hby d4_70) rfl (l' := #[.val (.ref t0), .val (.double sw), .second, .val (.double on), .second, .val (.long op), .second, .val (.double ob2), .second, .val (.double pb2), .second, .val (.double oa2), .second, .unset, .unset]) rfl ?_
    show Steps p.tables e below (T55.setTop (mkF m 72 #[.val (.ref t0), .val (.double sw), .second, .val (.double on), .second, .val (.long op), .second, .val (.double ob2), .second, .val (.double pb2), .second, .val (.double oa2), .second, .unset, .unset] [])) _
    refine XS.lload X55.here hx rfl (hb hby d4_72) rfl ?_
    show Steps p.tables e below (T55.setTop (mkF m 74 #[.val (.ref t0), .val (.double sw), .second, .val (.double on), .second, .val (.long op), .second, .val (.double ob2), .second, .val (.double pb2), .second, .val (.double oa2), .second, .unset, .unset] [(.long op)])) _
    refine XS.l2dS X55.here hx rfl (hb hby d4_74) rfl (v := (FP.l2d op)) rfl ?_
    show Steps p.tables e below (T55.setTop (mkF m 75 #[.val (.ref t0), .val (.double sw), .second, .val (.double on), .second, .val (.long op), .second, .val (.double ob2), .second, .val (.double pb2), .second, .val (.double oa2), .second, .unset, .unset] [(.double (FP.l2d op))])) _
    refine XS.aloadN X55.here hx rfl (hb hby d4_75) rfl rfl ?_
    show Steps p.tables e below (T55.setTop (mkF m 76 #[.val (.ref t0), .val (.double sw), .second, .val (.double on), .second, .val (.long op), .second, .val (.double ob2), .second, .val (.double pb2), .second, .val (.double oa2), .second, .unset, .unset] [(.ref t0), (.double (FP.l2d op))])) _
    refine st56.trans ?_
    show Steps p.tables e below (T56.setTop (mkF m 79 #[.val (.ref t0), .val (.double sw), .second, .val (.double on), .second, .val (.long op), .second, .val (.double ob2), .second, .val (.double pb2), .second, .val (.double oa2), .second, .unset, .unset] [(.double (FP.ddiv sp2 w2)), (.double (FP.l2d op))])) _
    refine XS.dsubS X56.here hx rfl (hb hby d4_79) rfl nn79 (v := pa2) hq79 ?_
    show Steps p.tables e below (T56.setTop (mkF m 80 #[.val (.ref t0), .val (.double sw), .second, .val (.double on), .second, .val (.long op), .second, .val (.double ob2), .second, .val (.double pb2), .second, .val (.double oa2), .second, .unset, .unset] [(.double pa2)])) _
    refine XS.dstore X56.here hx rfl (hb hby d4_80) rfl (l' := #[.val (.ref t0), .val (.double sw), .second, .val (.double on), .second, .val (.long op), .second, .val (.double ob2), .second, .val (.double pb2), .second, .val (.double oa2), .second, .val (.double pa2), .second]) rfl ?_
    show Steps p.tables e below (T56.setTop (mkF m 82 #[.val (.ref t0), .val (.double sw), .second, .val (.double on), .second, .val (.long op), .second, .val (.double ob2), .second, .val (.double pb2), .second, .val (.double oa2), .second, .val (.double pa2), .second] [])) _
    refine XS.aloadN X56.here hx rfl (hb hby d4_82) rfl rfl ?_
    show Steps p.tables e below (T56.setTop (mkF m 83 #[.val (.ref t0), .val (.double sw), .second, .val (.double on), .second, .val (.long op), .second, .val (.double ob2), .second, .val (.double pb2), .second, .val (.double oa2), .second, .val (.double pa2), .second] [(.ref t0)])) _
    refine XS.dup X56.here hx rfl (hb hby d4_83) rfl rfl ?_
    show Steps p.tables e below (T56.setTop (mkF m 84 #[.val (.ref t0), .val (.double sw), .second, .val (.double on), .second, .val (.long op), .second, .val (.double ob2), .second, .val (.double pb2), .second, .val (.double oa2), .second, .val (.double pa2), .second] [(.ref t0), (.ref t0)])) _
    refine st57 _ ?_
    show Steps p.tables e below (T57.setTop (mkF m 87 #[.val (.ref t0), .val (.double sw), .second, .val (.double on), .second, .val (.long op), .second, .val (.double ob2), .second, .val (.double pb2), .second, .val (.double oa2), .second, .val (.double pa2), .second] [(.double ma1), (.ref t0)])) _
    refine XS.dloadN X57.here hx rfl (hb hby d4_87) rfl ?_
    show Steps p.tables e below (T57.setTop (mkF m 88 #[.val (.ref t0), .val (.double sw), .second, .val (.double on), .second, .val (.long op), .second, .val (.double ob2), .second, .val (.double pb2), .second, .val (.double oa2), .second, .val (.double pa2), .second] [(.double sw), (.double ma1), (.ref t0)])) _
    refine XS.dload X57.here hx rfl (hb hby d4_88) rfl ?_
    show Steps p.tables e below (T57.setTop (mkF m 90 #[.val (.ref t0), .val (.double sw), .second, .val (.double on), .second, .val (.long op), .second, .val (.double ob2), .second, .val (.double pb2), .second, .val (.double oa2), .second, .val (.double pa2), .second] [(.double ob2), (.double sw), (.double ma1), (.ref t0)])) _
    refine XS.dmulS X57.here hx rfl (hb hby d4_90) rfl nn90 (v := (FP.dmul sw ob2)) rfl ?_
    show Steps p.tables e below (T57.setTop (mkF m 91 #[.val (.ref t0), .val (.double sw), .second, .val (.double on), .second, .val (.long op), .second, .val (.double ob2), .second, .val (.double pb2), .second, .val (.double oa2), .second, .val (.double pa2), .second] [(.double (FP.dmul sw ob2)), (.double ma1), (.ref t0)])) _
    refine XS.dload X57.here hx rfl (hb hby d4_91) rfl ?_
    show Steps p.tables e below (T57.setTop (mkF m 93 #[.val (.ref t0), .val (.double sw), .second, .val (.double on), .second, .val (.long op), .second, .val (.double ob2), .second, .val (.double pb2), .second, .val (.double oa2), .second, .val (.double pa2), .second] [(.double oa2), (.double (FP.dmul sw ob2)), (.double ma1), (.ref t0)])) _
    refine XS.dmulS X57.here hx rfl (hb hby d4_93) rfl nn93 (v := (FP.dmul (FP.dmul sw ob2) oa2)) rfl ?_
    show Steps p.tables e below (T57.setTop (mkF m 94 #[.val (.ref t0), .val (.double sw), .second, .val (.double on), .second, .val (.long op), .second, .val (.double ob2), .second, .val (.double pb2), .second, .val (.double oa2), .second, .val (.double pa2), .second] [(.double (FP.dmul (FP.dmul sw ob2) oa2)), (.double ma1), (.ref t0)])) _
    refine XS.daddS X57.here hx rfl (hb hby d4_94) rfl nn94 (v := ma2) hq94 ?_
    show Steps p.tables e below (T57.setTop (mkF m 95 #[.val (.ref t0), .val (.double sw), .second, .val (.double on), .second, .val (.long op), .second, .val (.double ob2), .second, .val (.double pb2), .second, .val (.double oa2), .second, .val (.double pa2), .second] [(.double ma2), (.ref t0)])) _
    refine st58 _ ?_
    show Steps p.tables e below (T58.setTop (mkF m 98 #[.val (.ref t0), .val (.double sw), .second, .val (.double on), .second, .val (.long op), .second, .val (.double ob2), .second, .val (.double pb2), .second, .val (.double oa2), .second, .val (.double pa2), .second] [])) _
    refine XS.aloadN X58.here hx rfl (hb hby d4_98) rfl rfl ?_
    show Steps p.tables e below (T58.setTop (mkF m 99 #[.val (.ref t0), .val (.double sw), .second, .val (.double on), .second, .val (.long op), .second, .val (.double ob2), .second, .val (.double pb2), .second, .val (.double oa2), .second, .val (.double pa2), .second] [(.ref t0)])) _
    refine XS.dup X58.here hx rfl (hb hby d4_99) rfl rfl ?_
    show Steps p.tables e below (T58.setTop (mkF m 100 #[.val (.ref t0), .val (.double sw), .second, .val (.double on), .second, .val (.long op), .second, .val (.double ob2), .second, .val (.double pb2), .second, .val (.double oa2), .second, .val (.double pa2), .second] [(.ref t0), (.ref t0)])) _
    refine st70 _ ?_
    show Steps p.tables e below (T70.setTop (mkF m 103 #[.val (.ref t0), .val (.double sw), .second, .val (.double on), .second, .val (.long op), .second, .val (.double ob2), .second, .val (.double pb2), .second, .val (.double oa2), .second, .val (.double pa2), .second] [(.double mb1), (.ref t0)])) _
    refine XS.dloadN X70.here hx rfl (hb hby d4_103) rfl ?_
    show Steps p.tables e below (T70.setTop (mkF m 104 #[.val (.ref t0), .val (.double sw), .second, .val (.double on), .second, .val (.long op), .second, .val (.double ob2), .second, .val (.double pb2), .second, .val (.double oa2), .second, .val (.double pa2), .second] [(.double sw), (.double mb1), (.ref t0)])) _
    refine XS.dload X70.here hx rfl (hb hby d4_104) rfl ?_
    show Steps p.tables e below (T70.setTop (mkF m 106 #[.val (.ref t0), .val (.double sw), .second, .val (.double on), .second, .val (.long op), .second, .val (.double ob2), .second, .val (.double pb2), .second, .val (.double oa2), .second, .val (.double pa2), .second] [(.double pb2), (.double sw), (.double mb1), (.ref t0)])) _
    refine XS.dmulS X70.here hx rfl (hb hby d4_106) rfl nn106 (v := (FP.dmul sw pb2)) rfl ?_
    show Steps p.tables e below (T70.setTop (mkF m 107 #[.val (.ref t0), .val (.double sw), .second, .val (.double on), .second, .val (.long op), .second, .val (.double ob2), .second, .val (.double pb2), .second, .val (.double oa2), .second, .val (.double pa2), .second] [(.double (FP.dmul sw pb2)), (.double mb1), (.ref t0)])) _
    refine XS.dload X70.here hx rfl (hb hby d4_107) rfl ?_
    show Steps p.tables e below (T70.setTop (mkF m 109 #[.val (.ref t0), .val (.double sw), .second, .val (.double on), .second, .val (.long op), .second, .val (.double ob2), .second, .val (.double pb2), .second, .val (.double oa2), .second, .val (.double pa2), .second] [(.double pa2), (.double (FP.dmul sw pb2)), (.double mb1), (.ref t0)])) _
    refine XS.dmulS X70.here hx rfl (hb hby d4_109) rfl nn109 (v := (FP.dmul (FP.dmul sw pb2) pa2)) rfl ?_
    show Steps p.tables e below (T70.setTop (mkF m 110 #[.val (.ref t0), .val (.double sw), .second, .val (.double on), .second, .val (.long op), .second, .val (.double ob2), .second, .val (.double pb2), .second, .val (.double oa2), .second, .val (.double pa2), .second] [(.double (FP.dmul (FP.dmul sw pb2) pa2)), (.double mb1), (.ref t0)])) _
    refine XS.daddS X70.here hx rfl (hb hby d4_110) rfl nn110 (v := mb2) hq110 ?_
    show Steps p.tables e below (T70.setTop (mkF m 111 #[.val (.ref t0), .val (.double sw), .second, .val (.double on), .second, .val (.long op), .second, .val (.double ob2), .second, .val (.double pb2), .second, .val (.double oa2), .second, .val (.double pa2), .second] [(.double mb2), (.ref t0)])) _
    refine st71 _ ?_
    show Steps p.tables e below (T71.setTop (mkF m 114 #[.val (.ref t0), .val (.double sw), .second, .val (.double on), .second, .val (.long op), .second, .val (.double ob2), .second, .val (.double pb2), .second, .val (.double oa2), .second, .val (.double pa2), .second] [])) _
    refine XS.aloadN X71.here hx rfl (hb hby d4_114) rfl rfl ?_
    show Steps p.tables e below (T71.setTop (mkF m 115 #[.val (.ref t0), .val (.double sw), .second, .val (.double on), .second, .val (.long op), .second, .val (.double ob2), .second, .val (.double pb2), .second, .val (.double oa2), .second, .val (.double pa2), .second] [(.ref t0)])) _
    refine XS.dup X71.here hx rfl (hb hby d4_115) rfl rfl ?_
    show Steps p.tables e below (T71.setTop (mkF m 116 #[.val (.ref t0), .val (.double sw), .second, .val (.double on), .second, .val (.long op), .second, .val (.double ob2), .second, .val (.double pb2), .second, .val (.double oa2), .second, .val (.double pa2), .second] [(.ref t0), (.ref t0)])) _
    refine st83 _ ?_
    show Steps p.tables e below (T83.setTop (mkF m 119 #[.val (.ref t0), .val (.double sw), .second, .val (.double on), .second, .val (.long op), .second, .val (.double ob2), .second, .val (.double pb2), .second, .val (.double oa2), .second, .val (.double pa2), .second] [(.double mc1), (.ref t0)])) _
    refine XS.dloadN X83.here hx rfl (hb hby d4_119) rfl ?_
    show Steps p.tables e below (T83.setTop (mkF m 120 #[.val (.ref t0), .val (.double sw), .second, .val (.double on), .second, .val (.long op), .second, .val (.double ob2), .second, .val (.double pb2), .second, .val (.double oa2), .second, .val (.double pa2), .second] [(.double sw), (.double mc1), (.ref t0)])) _
    refine XS.dload X83.here hx rfl (hb hby d4_120) rfl ?_
    show Steps p.tables e below (T83.setTop (mkF m 122 #[.val (.ref t0), .val (.double sw), .second, .val (.double on), .second, .val (.long op), .second, .val (.double ob2), .second, .val (.double pb2), .second, .val (.double oa2), .second, .val (.double pa2), .second] [(.double ob2), (.double sw), (.double mc1), (.ref t0)])) _
    refine XS.dmulS X83.here hx rfl (hb hby d4_122) rfl nn122 (v := (FP.dmul sw ob2)) rfl ?_
    show Steps p.tables e below (T83.setTop (mkF m 123 #[.val (.ref t0), .val (.double sw), .second, .val (.double on), .second, .val (.long op), .second, .val (.double ob2), .second, .val (.double pb2), .second, .val (.double oa2), .second, .val (.double pa2), .second] [(.double (FP.dmul sw ob2)), (.double mc1), (.ref t0)])) _
    refine XS.dload X83.here hx rfl (hb hby d4_123) rfl ?_
    show Steps p.tables e below (T83.setTop (mkF m 125 #[.val (.ref t0), .val (.double sw), .second, .val (.double on), .second, .val (.long op), .second, .val (.double ob2), .second, .val (.double pb2), .second, .val (.double oa2), .second, .val (.double pa2), .second] [(.double pa2), (.double (FP.dmul sw ob2)), (.double mc1), (.ref t0)])) _
    refine XS.dmulS X83.here hx rfl (hb hby d4_125) rfl nn125 (v := (FP.dmul (FP.dmul sw ob2) pa2)) rfl ?_
    show Steps p.tables e below (T83.setTop (mkF m 126 #[.val (.ref t0), .val (.double sw), .second, .val (.double on), .second, .val (.long op), .second, .val (.double ob2), .second, .val (.double pb2), .second, .val (.double oa2), .second, .val (.double pa2), .second] [(.double (FP.dmul (FP.dmul sw ob2) pa2)), (.double mc1), (.ref t0)])) _
    refine XS.daddS X83.here hx rfl (hb hby d4_126) rfl nn126 (v := mc2) hq126 ?_
    show Steps p.tables e below (T83.setTop (mkF m 127 #[.val (.ref t0), .val (.double sw), .second, .val (.double on), .second, .val (.long op), .second, .val (.double ob2), .second, .val (.double pb2), .second, .val (.double oa2), .second, .val (.double pa2), .second] [(.double mc2), (.ref t0)])) _
    refine st84 _ ?_
    show Steps p.tables e below (T84.setTop (mkF m 130 #[.val (.ref t0), .val (.double sw), .second, .val (.double on), .second, .val (.long op), .second, .val (.double ob2), .second, .val (.double pb2), .second, .val (.double oa2), .second, .val (.double pa2), .second] [])) _
    refine XS.lload X84.here hx rfl (hb hby d4_130) rfl ?_
    show Steps p.tables e below (T84.setTop (mkF m 132 #[.val (.ref t0), .val (.double sw), .second, .val (.double on), .second, .val (.long op), .second, .val (.double ob2), .second, .val (.double pb2), .second, .val (.double oa2), .second, .val (.double pa2), .second] [(.long op)])) _
    refine XS.lconst X84.here hx rfl (hb hby d4_132) ?_
    show Steps p.tables e below (T84.setTop (mkF m 133 #[.val (.ref t0), .val (.double sw), .second, .val (.double on), .second, .val (.long op), .second, .val (.double ob2), .second, .val (.double pb2), .second, .val (.double oa2), .second, .val (.double pa2), .second] [(.long (0 : Int64)), (.long op)])) _
    refine XS.lcmp X84.here hx rfl (hb hby d4_133) rfl ?_
    show Steps p.tables e below (T84.setTop (mkF m 134 #[.val (.ref t0), .val (.double sw), .second, .val (.double on), .second, .val (.long op), .second, .val (.double ob2), .second, .val (.double pb2), .second, .val (.double oa2), .second, .val (.double pa2), .second] [(.int (lcmpW op (0 : Int64)))])) _
    refine XS.ifNo X84.here hx rfl (hb hby d4_134) rfl ((if0 _ _).trans (tlt hc134).2.2.2) ?_
    show Steps p.tables e below (T84.setTop (mkF m 137 #[.val (.ref t0), .val (.double sw), .second, .val (.double on), .second, .val (.long op), .second, .val (.double ob2), .second, .val (.double pb2), .second, .val (.double oa2), .second, .val (.double pa2), .second] [])) _
    refine XS.aloadN X84.here hx rfl (hb hby d4_137) rfl rfl ?_
    show Steps p.tables e below (T84.setTop (mkF m 138 #[.val (.ref t0), .val (.double sw), .second, .val (.double on), .second, .val (.long op), .second, .val (.double ob2), .second, .val (.double pb2), .second, .val (.double oa2), .second, .val (.double pa2), .second] [(.ref t0)])) _
    refine XS.dup X84.here hx rfl (hb hby d4_138) rfl rfl ?_
    show Steps p.tables e below (T84.setTop (mkF m 139 #[.val (.ref t0), .val (.double sw), .second, .val (.double on), .second, .val (.long op), .second, .val (.double ob2), .second, .val (.double pb2), .second, .val (.double oa2), .second, .val (.double pa2), .second] [(.ref t0), (.ref t0)])) _
    refine st96 _ ?_
    show Steps p.tables e below (T96.setTop (mkF m 142 #[.val (.ref t0), .val (.double sw), .second, .val (.double on), .second, .val (.long op), .second, .val (.double ob2), .second, .val (.double pb2), .second, .val (.double oa2), .second, .val (.double pa2), .second] [(.double pw1), (.ref t0)])) _
    refine XS.dloadN X96.here hx rfl (hb hby d4_142) rfl ?_
    show Steps p.tables e below (T96.setTop (mkF m 143 #[.val (.ref t0), .val (.double sw), .second, .val (.double on), .second, .val (.long op), .second, .val (.double ob2), .second, .val (.double pb2), .second, .val (.double oa2), .second, .val (.double pa2), .second] [(.double sw), (.double pw1), (.ref t0)])) _
    refine XS.daddS X96.here hx rfl (hb hby d4_143) rfl nn143 (v := pw2) hq143 ?_
    show Steps p.tables e below (T96.setTop (mkF m 144 #[.val (.ref t0), .val (.double sw), .second, .val (.double on), .second, .val (.long op), .second, .val (.double ob2), .second, .val (.double pb2), .second, .val (.double oa2), .second, .val (.double pa2), .second] [(.double pw2), (.ref t0)])) _
    refine st97 _ ?_
    show Steps p.tables e below (T97.setTop (mkF m 147 #[.val (.ref t0), .val (.double sw), .second, .val (.double on), .second, .val (.long op), .second, .val (.double ob2), .second, .val (.double pb2), .second, .val (.double oa2), .second, .val (.double pa2), .second] [])) _
    refine XS.aloadN X97.here hx rfl (hb hby d4_147) rfl rfl ?_
    show Steps p.tables e below (T97.setTop (mkF m 148 #[.val (.ref t0), .val (.double sw), .second, .val (.double on), .second, .val (.long op), .second, .val (.double ob2), .second, .val (.double pb2), .second, .val (.double oa2), .second, .val (.double pa2), .second] [(.ref t0)])) _
    refine XS.dup X97.here hx rfl (hb hby d4_148) rfl rfl ?_
    show Steps p.tables e below (T97.setTop (mkF m 149 #[.val (.ref t0), .val (.double sw), .second, .val (.double on), .second, .val (.long op), .second, .val (.double ob2), .second, .val (.double pb2), .second, .val (.double oa2), .second, .val (.double pa2), .second] [(.ref t0), (.ref t0)])) _
    refine st109 _ ?_
    show Steps p.tables e below (T109.setTop (mkF m 152 #[.val (.ref t0), .val (.double sw), .second, .val (.double on), .second, .val (.long op), .second, .val (.double ob2), .second, .val (.double pb2), .second, .val (.double oa2), .second, .val (.double pa2), .second] [(.double wr1), (.ref t0)])) _
    refine XS.dloadN X109.here hx rfl (hb hby d4_152) rfl ?_
    show Steps p.tables e below (T109.setTop (mkF m 153 #[.val (.ref t0), .val (.double sw), .second, .val (.double on), .second, .val (.long op), .second, .val (.double ob2), .second, .val (.double pb2), .second, .val (.double oa2), .second, .val (.double pa2), .second] [(.double sw), (.double wr1), (.ref t0)])) _
    refine XS.dloadN X109.here hx rfl (hb hby d4_153) rfl ?_
    show Steps p.tables e below (T109.setTop (mkF m 154 #[.val (.ref t0), .val (.double sw), .second, .val (.double on), .second, .val (.long op), .second, .val (.double ob2), .second, .val (.double pb2), .second, .val (.double oa2), .second, .val (.double pa2), .second] [(.double on), (.double sw), (.double wr1), (.ref t0)])) _
    refine XS.lload X109.here hx rfl (hb hby d4_154) rfl ?_
    show Steps p.tables e below (T109.setTop (mkF m 156 #[.val (.ref t0), .val (.double sw), .second, .val (.double on), .second, .val (.long op), .second, .val (.double ob2), .second, .val (.double pb2), .second, .val (.double oa2), .second, .val (.double pa2), .second] [(.long op), (.double on), (.double sw), (.double wr1), (.ref t0)])) _
    refine XS.l2dS X109.here hx rfl (hb hby d4_156) rfl (v := (FP.l2d op)) rfl ?_
    show Steps p.tables e below (T109.setTop (mkF m 157 #[.val (.ref t0), .val (.double sw), .second, .val (.double on), .second, .val (.long op), .second, .val (.double ob2), .second, .val (.double pb2), .second, .val (.double oa2), .second, .val (.double pa2), .second] [(.double (FP.l2d op)), (.double on), (.double sw), (.double wr1), (.ref t0)])) _
    refine XS.ddivS X109.here hx rfl (hb hby d4_157) rfl nn157 (v := (FP.ddiv on (FP.l2d op))) rfl ?_
    show Steps p.tables e below (T109.setTop (mkF m 158 #[.val (.ref t0), .val (.double sw), .second, .val (.double on), .second, .val (.long op), .second, .val (.double ob2), .second, .val (.double pb2), .second, .val (.double oa2), .second, .val (.double pa2), .second] [(.double (FP.ddiv on (FP.l2d op))), (.double sw), (.double wr1), (.ref t0)])) _
    refine XS.dmulS X109.here hx rfl (hb hby d4_158) rfl nn158 (v := (FP.dmul sw (FP.ddiv on (FP.l2d op)))) rfl ?_
    show Steps p.tables e below (T109.setTop (mkF m 159 #[.val (.ref t0), .val (.double sw), .second, .val (.double on), .second, .val (.long op), .second, .val (.double ob2), .second, .val (.double pb2), .second, .val (.double oa2), .second, .val (.double pa2), .second] [(.double (FP.dmul sw (FP.ddiv on (FP.l2d op)))), (.double wr1), (.ref t0)])) _
    refine XS.daddS X109.here hx rfl (hb hby d4_159) rfl nn159 (v := wr2) hq159 ?_
    show Steps p.tables e below (T109.setTop (mkF m 160 #[.val (.ref t0), .val (.double sw), .second, .val (.double on), .second, .val (.long op), .second, .val (.double ob2), .second, .val (.double pb2), .second, .val (.double oa2), .second, .val (.double pa2), .second] [(.double wr2), (.ref t0)])) _
    refine st110 _ ?_
    show Steps p.tables e below (T110.setTop (mkF m 163 #[.val (.ref t0), .val (.double sw), .second, .val (.double on), .second, .val (.long op), .second, .val (.double ob2), .second, .val (.double pb2), .second, .val (.double oa2), .second, .val (.double pa2), .second] [])) _
    refine XS.goto X110.here hx rfl (pc0 := 163) (pc' := 176) rfl (hb hby d4_163) (by decide) (by decide) ?_
    show Steps p.tables e below (T110.setTop (mkF m 176 #[.val (.ref t0), .val (.double sw), .second, .val (.double on), .second, .val (.long op), .second, .val (.double ob2), .second, .val (.double pb2), .second, .val (.double oa2), .second, .val (.double pa2), .second] [])) _
    exact X110.returnOut hx Bd.returns (hb hby d4_176) hr
  · show Q_rm4_1p Z t0 sw on op w1 so1 sp1 ma1 mb1 mc1 pw1 wr1 zw1 ob2 pb2 w2 so2 sp2 oa2 pa2 ma2 mb2 mc2 pw2 wr2 h0 n0 _ T110.heap _
    rw [e110]
    exact ⟨rfl, N110, K110, f111, f112, f113, f114, f115, f116, f117, f118, f119, f121, f120⟩
def Q_rm4_1z (Z : State) (t0 : Addr) (sw : UInt64) (on : UInt64) (op : Int64) (w1 : UInt64) (so1 : UInt64) (sp1 : UInt64) (ma1 : UInt64) (mb1 : UInt64) (mc1 : UInt64) (pw1 : UInt64) (wr1 : UInt64) (zw1 : UInt64) (ob2 : UInt64) (pb2 : UInt64) (w2 : UInt64) (so2 : UInt64) (sp2 : UInt64) (oa2 : UInt64) (pa2 : UInt64) (ma2 : UInt64) (mb2 : UInt64) (mc2 : UInt64) (zw2 : UInt64) (h0 : Heap) (n0 : Nat) (v : Option Value) (h : Heap) (L : List Loc) : Prop := v = none ∧ Fr n0 L ∧ Keep h0 h [t0] ∧ Exa Z h t0 "com/example/arrivals/arrivals/core/SequenceStatistics" ∧ Fld Z h t0 "com/example/arrivals/arrivals/core/SequenceStatistics" "count" "J" (.long (2 : Int64)) ∧ Fld Z h t0 "com/example/arrivals/arrivals/core/SequenceStatistics" "weight" "D" (.double w2) ∧ Fld Z h t0 "com/example/arrivals/arrivals/core/SequenceStatistics" "sumOnline" "D" (.double so2) ∧ Fld Z h t0 "com/example/arrivals/arrivals/core/SequenceStatistics" "sumOptimum" "D" (.double sp2) ∧ Fld Z h t0 "com/example/arrivals/arrivals/core/SequenceStatistics" "comomentOnline" "D" (.double ma2) ∧ Fld Z h t0 "com/example/arrivals/arrivals/core/SequenceStatistics" "comomentOptimum" "D" (.double mb2) ∧ Fld Z h t0 "com/example/arrivals/arrivals/core/SequenceStatistics" "comomentBoth" "D" (.double mc2) ∧ Fld Z h t0 "com/example/arrivals/arrivals/core/SequenceStatistics" "positiveWeight" "D" (.double pw1) ∧ Fld Z h t0 "com/example/arrivals/arrivals/core/SequenceStatistics" "weightedRatios" "D" (.double wr1) ∧ Fld Z h t0 "com/example/arrivals/arrivals/core/SequenceStatistics" "zeroWeight" "D" (.double zw2)
set_option maxRecDepth 65536 in
set_option maxHeartbeats 40000000 in
theorem rm4_1z (l : Launch) (Z : State) (a0 : Array Value) (hw : ∀ d ∈ tables_1, d.before a0 Z = true) (ws : List Jvm.Cond) (t0 : Addr) (sw : UInt64) (on : UInt64) (op : Int64) (w1 : UInt64) (so1 : UInt64) (sp1 : UInt64) (ma1 : UInt64) (mb1 : UInt64) (mc1 : UInt64) (pw1 : UInt64) (wr1 : UInt64) (zw1 : UInt64) (ob2 : UInt64) (pb2 : UInt64) (w2 : UInt64) (so2 : UInt64) (sp2 : UInt64) (oa2 : UInt64) (pa2 : UInt64) (ma2 : UInt64) (mb2 : UInt64) (mc2 : UInt64) (zw2 : UInt64) (h0 : Heap) (n0 : Nat) (Z0 : n0 ≤ h0.size) (E_t0 : Exa Z h0 t0 "com/example/arrivals/arrivals/core/SequenceStatistics") (g_t0 : n0 ≤ t0) (F_count_t0 : Fld Z h0 t0 "com/example/arrivals/arrivals/core/SequenceStatistics" "count" "J" (.long (1 : Int64))) (F_weight_t0 : Fld Z h0 t0 "com/example/arrivals/arrivals/core/SequenceStatistics" "weight" "D" (.double w1)) (F_sumOnline_t0 : Fld Z h0 t0 "com/example/arrivals/arrivals/core/SequenceStatistics" "sumOnline" "D" (.double so1)) (F_sumOptimum_t0 : Fld Z h0 t0 "com/example/arrivals/arrivals/core/SequenceStatistics" "sumOptimum" "D" (.double sp1)) (F_comomentOnline_t0 : Fld Z h0 t0 "com/example/arrivals/arrivals/core/SequenceStatistics" "comomentOnline" "D" (.double ma1)) (F_comomentOptimum_t0 : Fld Z h0 t0 "com/example/arrivals/arrivals/core/SequenceStatistics" "comomentOptimum" "D" (.double mb1)) (F_comomentBoth_t0 : Fld Z h0 t0 "com/example/arrivals/arrivals/core/SequenceStatistics" "comomentBoth" "D" (.double mc1)) (F_positiveWeight_t0 : Fld Z h0 t0 "com/example/arrivals/arrivals/core/SequenceStatistics" "positiveWeight" "D" (.double pw1)) (F_weightedRatios_t0 : Fld Z h0 t0 "com/example/arrivals/arrivals/core/SequenceStatistics" "weightedRatios" "D" (.double wr1)) (F_zeroWeight_t0 : Fld Z h0 t0 "com/example/arrivals/arrivals/core/SequenceStatistics" "zeroWeight" "D" (.double zw1)) (nn21_2 : Jvm.Free.Fl.NoNaN64 (FP.ddiv so1 w1)) (nn5 : Jvm.Free.Fl.NoNaN64 (FP.dsub on (FP.ddiv so1 w1))) (hq5 : (FP.dsub on (FP.ddiv so1 w1)) = ob2) (nn21_12 : Jvm.Free.Fl.NoNaN64 (FP.ddiv sp1 w1)) (nn15 : Jvm.Free.Fl.NoNaN64 (FP.dsub (FP.l2d op) (FP.ddiv sp1 w1))) (hq15 : (FP.dsub (FP.l2d op) (FP.ddiv sp1 w1)) = pb2) (nn34 : Jvm.Free.Fl.NoNaN64 (FP.dadd w1 sw)) (hq34 : (FP.dadd w1 sw) = w2) (nn45 : Jvm.Free.Fl.NoNaN64 (FP.dmul sw on)) (nn46 : Jvm.Free.Fl.NoNaN64 (FP.dadd so1 (FP.dmul sw on))) (hq46 : (FP.dadd so1 (FP.dmul sw on)) = so2) (nn59 : Jvm.Free.Fl.NoNaN64 (FP.dmul sw (FP.l2d op))) (nn60 : Jvm.Free.Fl.NoNaN64 (FP.dadd sp1 (FP.dmul sw (FP.l2d op)))) (hq60 : (FP.dadd sp1 (FP.dmul sw (FP.l2d op))) = sp2) (nn21_66 : Jvm.Free.Fl.NoNaN64 (FP.ddiv so2 w2)) (nn69 : Jvm.Free.Fl.NoNaN64 (FP.dsub on (FP.ddiv so2 w2))) (hq69 : (FP.dsub on (FP.ddiv so2 w2)) = oa2) (nn21_76 : Jvm.Free.Fl.NoNaN64 (FP.ddiv sp2 w2)) (nn79 : Jvm.Free.Fl.NoNaN64 (FP.dsub (FP.l2d op) (FP.ddiv sp2 w2))) (hq79 : (FP.dsub (FP.l2d op) (FP.ddiv sp2 w2)) = pa2) (nn90 : Jvm.Free.Fl.NoNaN64 (FP.dmul sw ob2)) (nn93 : Jvm.Free.Fl.NoNaN64 (FP.dmul (FP.dmul sw ob2) oa2)) (nn94 : Jvm.Free.Fl.NoNaN64 (FP.dadd ma1 (FP.dmul (FP.dmul sw ob2) oa2))) (hq94 : (FP.dadd ma1 (FP.dmul (FP.dmul sw ob2) oa2)) = ma2) (nn106 : Jvm.Free.Fl.NoNaN64 (FP.dmul sw pb2)) (nn109 : Jvm.Free.Fl.NoNaN64 (FP.dmul (FP.dmul sw pb2) pa2)) (nn110 : Jvm.Free.Fl.NoNaN64 (FP.dadd mb1 (FP.dmul (FP.dmul sw pb2) pa2))) (hq110 : (FP.dadd mb1 (FP.dmul (FP.dmul sw pb2) pa2)) = mb2) (nn122 : Jvm.Free.Fl.NoNaN64 (FP.dmul sw ob2)) (nn125 : Jvm.Free.Fl.NoNaN64 (FP.dmul (FP.dmul sw ob2) pa2)) (nn126 : Jvm.Free.Fl.NoNaN64 (FP.dadd mc1 (FP.dmul (FP.dmul sw ob2) pa2))) (hq126 : (FP.dadd mc1 (FP.dmul (FP.dmul sw ob2) pa2)) = mc2) (hc134 : ¬ ((0 : Int32) < (lcmpW op (0 : Int64)))) (nn172 : Jvm.Free.Fl.NoNaN64 (FP.dadd zw1 sw)) (hq172 : (FP.dadd zw1 sw) = zw2) :
    MetFree l (⟨"com/example/arrivals/arrivals/core/SequenceStatistics", "add", "(DDJ)V"⟩ : MethodName) (head1 (Jvm.Cond.code (⟨"com/example/arrivals/arrivals/core/SequenceStatistics", "add", "(DDJ)V"⟩ : MethodName) prog_26_method_2_code 15 none :: ws) ({ frames := 1, cells := 0, slots := 0, locals := 14 } : Room)) (fun a U => a = #[(.ref t0), (.double sw), (.double on), (.long op)] ∧ Z.Warmed39 U.vm ∧ U.heap = h0) (fun _ _ _ _ _ => True) (fun _ U o U' => ∃ v L, o = .returned v ∧ Q_rm4_1z Z t0 sw on op w1 so1 sp1 ma1 mb1 mc1 pw1 wr1 zw1 ob2 pb2 w2 so2 sp2 oa2 pa2 ma2 mb2 mc2 zw2 h0 n0 v U'.heap L ∧ FrameEnd U o U' L ({ frames := 1, cells := 0, slots := 0, locals := 14 } : Room).cells ({ frames := 1, cells := 0, slots := 0, locals := 14 } : Room).slots) := by
  refine MetFree.of_bodySF (plainFor_of_name pn_com_example_arrivals_arrivals_core_SequenceStatistics) hisR ?_
  intro p e s m args below meth c s₁ Bd hml0 hP hK
  obtain ⟨rfl, hZ, hh⟩ := hP
  have hx := Bd.exec
  have hby := Bd.bytes
  have hml : c.maxLocals = 15 := hml0
  have hown : s.vm.findClass "com/example/arrivals/arrivals/core/SequenceStatistics" = some m.cls := findClass_of_methodNamed Bd.named
  have hnm := (name_of_methodNamed Bd.named Bd.method).1
  have X0 : Stand p l e ({ frames := 1, cells := 0, slots := 0, locals := 14 } : Room) s m #[(.ref t0), (.double sw), (.double on), (.long op)] below meth c s₁ [] 0 0 := Stand.of_body Bd
  have e0 : s₁.heap = h0 := by rw [← hh, Bd.state]; rfl
  have N0 := Fr.nil n0
  have pre0 : ∀ t, Steps p.tables e below (s₁.setTop (mkF m 0 #[.val (.ref t0), .val (.double sw), .second, .val (.double on), .second, .val (.long op), .second, .unset, .unset, .unset, .unset, .unset, .unset, .unset, .unset] [])) t → Steps p.tables e below (s₁.setTop (entryFrame m #[(.ref t0), (.double sw), (.double on), (.long op)] 15)) t := fun t k => castTop (ef_4_RDDJ m t0 sw on op) k
  obtain ⟨cq1, kq1, q1a, q1b, q1c⟩ := isOf hZ e0 E_t0
  obtain ⟨_, _, ⟨T1, L1, k1, n1⟩, -, X1, ⟨Lc1, hQ1, l1, y1, z1⟩, st1⟩ := X0.virtualBack hx (y := (⟨"com/example/arrivals/arrivals/core/SequenceStatistics", "meanOnline", "()D"⟩ : MethodName)) (z := (⟨"com/example/arrivals/arrivals/core/SequenceStatistics", "meanOnline", "()D"⟩ : MethodName)) hown (mvT hZ (hw _ (List.mem_of_getElem? (i := 22) rfl))) (mvT hZ (hw _ (List.mem_of_getElem? (i := 23) rfl))) (notFace_of_selects (args := #[]) (mvT hZ (hw _ (List.mem_of_getElem? (i := 25) rfl)))) (mvT hZ (hw _ (List.mem_of_getElem? (i := 25) rfl))) (mvT hZ (hw _ (List.mem_of_getElem? (i := 24) rfl))) (by decide) (backOf (W := 2) (rm5_1 l Z a0 hw [] t0 w1 so1 h0 n0 Z0 F_count_t0 F_sumOnline_t0 F_weight_t0 nn21_2) hZ (hw _ (List.mem_of_getElem? (i := 26) rfl)) (hw _ (List.mem_of_getElem? (i := 2) rfl)) (by decide) (by decide)) q1a q1c (g := (mkF m 2 #[.val (.ref t0), .val (.double sw), .second, .val (.double on), .second, .val (.long op), .second, .unset, .unset, .unset, .unset, .unset, .unset, .unset, .unset] [(.ref t0), (.double on)])) rfl (by rw [hml]; rfl) (Steps.refl _) (argsL := []) (rest := [(.double on)]) (lenOf pd_0 rfl) rfl (by show 2 * 0 + _ ≤ _; exact Nat.le_of_eq rfl) (hb hby d4_2) (fun _ _ => ⟨rfl, e0, (by decide : 0 + 0 ≤ _), (by decide : 0 + 0 ≤ _)⟩)
  dsimp only [Pt.U, Pt.locs, Pt.cells, Pt.slots] at X1 l1 y1 z1 st1 hQ1
  subst l1 y1 z1
  obtain ⟨rfl, N1q, eh1⟩ := hQ1
  have N1 := Fr.app N0 N1q
  have e1 : T1.heap = h0 := eh1
  obtain ⟨cq2, kq2, q2a, q2b, q2c⟩ := isOf hZ e1 E_t0
  obtain ⟨_, _, ⟨T2, L2, k2, n2⟩, -, X2, ⟨Lc2, hQ2, l2, y2, z2⟩, st2⟩ := X1.virtualBack hx (y := (⟨"com/example/arrivals/arrivals/core/SequenceStatistics", "meanOptimum", "()D"⟩ : MethodName)) (z := (⟨"com/example/arrivals/arrivals/core/SequenceStatistics", "meanOptimum", "()D"⟩ : MethodName)) hown (mvT hZ (hw _ (List.mem_of_getElem? (i := 29) rfl))) (mvT hZ (hw _ (List.mem_of_getElem? (i := 30) rfl))) (notFace_of_selects (args := #[]) (mvT hZ (hw _ (List.mem_of_getElem? (i := 32) rfl)))) (mvT hZ (hw _ (List.mem_of_getElem? (i := 32) rfl))) (mvT hZ (hw _ (List.mem_of_getElem? (i := 31) rfl))) (by decide) (backOf (W := 2) (rm6_1 l Z a0 hw [] t0 w1 sp1 h0 n0 Z0 F_count_t0 F_sumOptimum_t0 F_weight_t0 nn21_12) hZ (hw _ (List.mem_of_getElem? (i := 33) rfl)) (hw _ (List.mem_of_getElem? (i := 2) rfl)) (by decide) (by decide)) q2a q2c (g := (mkF m 12 #[.val (.ref t0), .val (.double sw), .second, .val (.double on), .second, .val (.long op), .second, .val (.double ob2), .second, .unset, .unset, .unset, .unset, .unset, .unset] [(.ref t0), (.double (FP.l2d op))])) rfl (by rw [hml]; rfl) (Steps.refl _) (argsL := []) (rest := [(.double (FP.l2d op))]) (lenOf pd_0 rfl) rfl (by show 2 * 0 + _ ≤ _; exact Nat.le_of_eq rfl) (hb hby d4_12) (fun _ _ => ⟨rfl, e1, (by decide : 0 + 0 ≤ _), (by decide : 0 + 0 ≤ _)⟩)
  dsimp only [Pt.U, Pt.locs, Pt.cells, Pt.slots] at X2 l2 y2 z2 st2 hQ2
  subst l2 y2 z2
  obtain ⟨rfl, N2q, eh2⟩ := hQ2
  have N2 := Fr.app N1 N2q
  have e2 : T2.heap = h0 := eh2
  obtain ⟨T3, X3, e3, st3⟩ := getF X2 hx hZ hown (host := "") (Or.inl (hw _ (List.mem_of_getElem? (i := 27) rfl))) Via.refl e2 F_count_t0 (g := (mkF m 20 #[.val (.ref t0), .val (.double sw), .second, .val (.double on), .second, .val (.long op), .second, .val (.double ob2), .second, .val (.double pb2), .second, .unset, .unset, .unset, .unset] [(.ref t0), (.ref t0)])) rfl rfl (hb hby d4_20)
  obtain ⟨T4, h4, X4, e4, W4, st4⟩ := putF X3 hx hZ hown (host := "") (Or.inl (hw _ (List.mem_of_getElem? (i := 27) rfl))) Via.refl e3 F_count_t0 E_t0 (Or.inl (hw _ (List.mem_of_getElem? (i := 28) rfl))) (hw _ (List.mem_of_getElem? (i := 1) rfl)) (ty := .long) (by decide) rfl rfl (g := (mkF m 25 #[.val (.ref t0), .val (.double sw), .second, .val (.double on), .second, .val (.long op), .second, .val (.double ob2), .second, .val (.double pb2), .second, .unset, .unset, .unset, .unset] [(.long (2 : Int64)), (.ref t0)])) rfl rfl (hb hby d4_25)
  have f5 := E_t0.wr W4
  have f6 := F_weight_t0.other W4 (Or.inr (so_SequenceStatistics_weight_count hw))
  have f7 := F_sumOnline_t0.other W4 (Or.inr (so_SequenceStatistics_sumOnline_count hw))
  have f8 := F_sumOptimum_t0.other W4 (Or.inr (so_SequenceStatistics_sumOptimum_count hw))
  have f9 := F_comomentOnline_t0.other W4 (Or.inr (so_SequenceStatistics_comomentOnline_count hw))
  have f10 := F_comomentOptimum_t0.other W4 (Or.inr (so_SequenceStatistics_comomentOptimum_count hw))
  have f11 := F_comomentBoth_t0.other W4 (Or.inr (so_SequenceStatistics_comomentBoth_count hw))
  have f12 := F_positiveWeight_t0.other W4 (Or.inr (so_SequenceStatistics_positiveWeight_count hw))
  have f13 := F_weightedRatios_t0.other W4 (Or.inr (so_SequenceStatistics_weightedRatios_count hw))
  have f14 := F_zeroWeight_t0.other W4 (Or.inr (so_SequenceStatistics_zeroWeight_count hw))
  have K4 : Keep h0 h4 [t0] := (Keep.refl h0 [t0]).wr W4 (Or.inl (List.mem_of_getElem? (i := 0) rfl))
  have Zs4 := Nat.le_trans Z0 (Keep.of_wr W4).1
  have N4 := Fr.snoc X4 N2 g_t0
  have f15 : Fld Z h4 t0 "com/example/arrivals/arrivals/core/SequenceStatistics" "count" "J" (.long (2 : Int64)) := F_count_t0.same W4
  obtain ⟨T16, X16, e16, st16⟩ := getF X4 hx hZ hown (host := "") (Or.inl (hw _ (List.mem_of_getElem? (i := 34) rfl))) Via.refl e4 f6 (g := (mkF m 30 #[.val (.ref t0), .val (.double sw), .second, .val (.double on), .second, .val (.long op), .second, .val (.double ob2), .second, .val (.double pb2), .second, .unset, .unset, .unset, .unset] [(.ref t0), (.ref t0)])) rfl rfl (hb hby d4_30)
  obtain ⟨T17, h17, X17, e17, W17, st17⟩ := putF X16 hx hZ hown (host := "") (Or.inl (hw _ (List.mem_of_getElem? (i := 34) rfl))) Via.refl e16 f6 f5 (Or.inl (hw _ (List.mem_of_getElem? (i := 35) rfl))) (hw _ (List.mem_of_getElem? (i := 1) rfl)) (ty := .double) (by decide) rfl rfl (g := (mkF m 35 #[.val (.ref t0), .val (.double sw), .second, .val (.double on), .second, .val (.long op), .second, .val (.double ob2), .second, .val (.double pb2), .second, .unset, .unset, .unset, .unset] [(.double w2), (.ref t0)])) rfl rfl (hb hby d4_35)
  have f18 := f5.wr W17
  have f19 := f15.other W17 (Or.inr (so_SequenceStatistics_count_weight hw))
  have f20 := f7.other W17 (Or.inr (so_SequenceStatistics_sumOnline_weight hw))
  have f21 := f8.other W17 (Or.inr (so_SequenceStatistics_sumOptimum_weight hw))
  have f22 := f9.other W17 (Or.inr (so_SequenceStatistics_comomentOnline_weight hw))
  have f23 := f10.other W17 (Or.inr (so_SequenceStatistics_comomentOptimum_weight hw))
  have f24 := f11.other W17 (Or.inr (so_SequenceStatistics_comomentBoth_weight hw))
  have f25 := f12.other W17 (Or.inr (so_SequenceStatistics_positiveWeight_weight hw))
  have f26 := f13.other W17 (Or.inr (so_SequenceStatistics_weightedRatios_weight hw))
  have f27 := f14.other W17 (Or.inr (so_SequenceStatistics_zeroWeight_weight hw))
  have K17 : Keep h0 h17 [t0] := K4.wr W17 (Or.inl (List.mem_of_getElem? (i := 0) rfl))
  have Zs17 := Nat.le_trans Zs4 (Keep.of_wr W17).1
  have N17 := Fr.snoc X17 N4 g_t0
  have f28 : Fld Z h17 t0 "com/example/arrivals/arrivals/core/SequenceStatistics" "weight" "D" (.double w2) := f6.same W17
  obtain ⟨T29, X29, e29, st29⟩ := getF X17 hx hZ hown (host := "") (Or.inl (hw _ (List.mem_of_getElem? (i := 36) rfl))) Via.refl e17 f20 (g := (mkF m 40 #[.val (.ref t0), .val (.double sw), .second, .val (.double on), .second, .val (.long op), .second, .val (.double ob2), .second, .val (.double pb2), .second, .unset, .unset, .unset, .unset] [(.ref t0), (.ref t0)])) rfl rfl (hb hby d4_40)
  obtain ⟨T30, h30, X30, e30, W30, st30⟩ := putF X29 hx hZ hown (host := "") (Or.inl (hw _ (List.mem_of_getElem? (i := 36) rfl))) Via.refl e29 f20 f18 (Or.inl (hw _ (List.mem_of_getElem? (i := 37) rfl))) (hw _ (List.mem_of_getElem? (i := 1) rfl)) (ty := .double) (by decide) rfl rfl (g := (mkF m 47 #[.val (.ref t0), .val (.double sw), .second, .val (.double on), .second, .val (.long op), .second, .val (.double ob2), .second, .val (.double pb2), .second, .unset, .unset, .unset, .unset] [(.double so2), (.ref t0)])) rfl rfl (hb hby d4_47)
  have f31 := f18.wr W30
  have f32 := f19.other W30 (Or.inr (so_SequenceStatistics_count_sumOnline hw))
  have f33 := f28.other W30 (Or.inr (so_SequenceStatistics_weight_sumOnline hw))
  have f34 := f21.other W30 (Or.inr (so_SequenceStatistics_sumOptimum_sumOnline hw))
  have f35 := f22.other W30 (Or.inr (so_SequenceStatistics_comomentOnline_sumOnline hw))
  have f36 := f23.other W30 (Or.inr (so_SequenceStatistics_comomentOptimum_sumOnline hw))
  have f37 := f24.other W30 (Or.inr (so_SequenceStatistics_comomentBoth_sumOnline hw))
  have f38 := f25.other W30 (Or.inr (so_SequenceStatistics_positiveWeight_sumOnline hw))
  have f39 := f26.other W30 (Or.inr (so_SequenceStatistics_weightedRatios_sumOnline hw))
  have f40 := f27.other W30 (Or.inr (so_SequenceStatistics_zeroWeight_sumOnline hw))
  have K30 : Keep h0 h30 [t0] := K17.wr W30 (Or.inl (List.mem_of_getElem? (i := 0) rfl))
  have Zs30 := Nat.le_trans Zs17 (Keep.of_wr W30).1
  have N30 := Fr.snoc X30 N17 g_t0
  have f41 : Fld Z h30 t0 "com/example/arrivals/arrivals/core/SequenceStatistics" "sumOnline" "D" (.double so2) := f20.same W30
  obtain ⟨T42, X42, e42, st42⟩ := getF X30 hx hZ hown (host := "") (Or.inl (hw _ (List.mem_of_getElem? (i := 38) rfl))) Via.refl e30 f34 (g := (mkF m 52 #[.val (.ref t0), .val (.double sw), .second, .val (.double on), .second, .val (.long op), .second, .val (.double ob2), .second, .val (.double pb2), .second, .unset, .unset, .unset, .unset] [(.ref t0), (.ref t0)])) rfl rfl (hb hby d4_52)
  obtain ⟨T43, h43, X43, e43, W43, st43⟩ := putF X42 hx hZ hown (host := "") (Or.inl (hw _ (List.mem_of_getElem? (i := 38) rfl))) Via.refl e42 f34 f31 (Or.inl (hw _ (List.mem_of_getElem? (i := 39) rfl))) (hw _ (List.mem_of_getElem? (i := 1) rfl)) (ty := .double) (by decide) rfl rfl (g := (mkF m 61 #[.val (.ref t0), .val (.double sw), .second, .val (.double on), .second, .val (.long op), .second, .val (.double ob2), .second, .val (.double pb2), .second, .unset, .unset, .unset, .unset] [(.double sp2), (.ref t0)])) rfl rfl (hb hby d4_61)
  have f44 := f31.wr W43
  have f45 := f32.other W43 (Or.inr (so_SequenceStatistics_count_sumOptimum hw))
  have f46 := f33.other W43 (Or.inr (so_SequenceStatistics_weight_sumOptimum hw))
  have f47 := f41.other W43 (Or.inr (so_SequenceStatistics_sumOnline_sumOptimum hw))
  have f48 := f35.other W43 (Or.inr (so_SequenceStatistics_comomentOnline_sumOptimum hw))
  have f49 := f36.other W43 (Or.inr (so_SequenceStatistics_comomentOptimum_sumOptimum hw))
  have f50 := f37.other W43 (Or.inr (so_SequenceStatistics_comomentBoth_sumOptimum hw))
  have f51 := f38.other W43 (Or.inr (so_SequenceStatistics_positiveWeight_sumOptimum hw))
  have f52 := f39.other W43 (Or.inr (so_SequenceStatistics_weightedRatios_sumOptimum hw))
  have f53 := f40.other W43 (Or.inr (so_SequenceStatistics_zeroWeight_sumOptimum hw))
  have K43 : Keep h0 h43 [t0] := K30.wr W43 (Or.inl (List.mem_of_getElem? (i := 0) rfl))
  have Zs43 := Nat.le_trans Zs30 (Keep.of_wr W43).1
  have N43 := Fr.snoc X43 N30 g_t0
  have f54 : Fld Z h43 t0 "com/example/arrivals/arrivals/core/SequenceStatistics" "sumOptimum" "D" (.double sp2) := f34.same W43
  obtain ⟨cq55, kq55, q55a, q55b, q55c⟩ := isOf hZ e43 f44
  obtain ⟨_, _, ⟨T55, L55, k55, n55⟩, -, X55, ⟨Lc55, hQ55, l55, y55, z55⟩, st55⟩ := X43.virtualBack hx (y := (⟨"com/example/arrivals/arrivals/core/SequenceStatistics", "meanOnline", "()D"⟩ : MethodName)) (z := (⟨"com/example/arrivals/arrivals/core/SequenceStatistics", "meanOnline", "()D"⟩ : MethodName)) hown (mvT hZ (hw _ (List.mem_of_getElem? (i := 22) rfl))) (mvT hZ (hw _ (List.mem_of_getElem? (i := 23) rfl))) (notFace_of_selects (args := #[]) (mvT hZ (hw _ (List.mem_of_getElem? (i := 25) rfl)))) (mvT hZ (hw _ (List.mem_of_getElem? (i := 25) rfl))) (mvT hZ (hw _ (List.mem_of_getElem? (i := 24) rfl))) (by decide) (backOf (W := 2) (rm5_2 l Z a0 hw [] t0 w2 so2 h43 n0 Zs43 f45 f47 f46 nn21_66) hZ (hw _ (List.mem_of_getElem? (i := 26) rfl)) (hw _ (List.mem_of_getElem? (i := 2) rfl)) (by decide) (by decide)) q55a q55c (g := (mkF m 66 #[.val (.ref t0), .val (.double sw), .second, .val (.double on), .second, .val (.long op), .second, .val (.double ob2), .second, .val (.double pb2), .second, .unset, .unset, .unset, .unset] [(.ref t0), (.double on)])) rfl (by rw [hml]; rfl) (Steps.refl _) (argsL := []) (rest := [(.double on)]) (lenOf pd_0 rfl) rfl (by show 2 * 0 + _ ≤ _; exact Nat.le_of_eq rfl) (hb hby d4_66) (fun _ _ => ⟨rfl, e43, (by decide : 0 + 0 ≤ _), (by decide : 0 + 0 ≤ _)⟩)
  dsimp only [Pt.U, Pt.locs, Pt.cells, Pt.slots] at X55 l55 y55 z55 st55 hQ55
  subst l55 y55 z55
  obtain ⟨rfl, N55q, eh55⟩ := hQ55
  have N55 := Fr.app N43 N55q
  have e55 : T55.heap = h43 := eh55
  obtain ⟨cq56, kq56, q56a, q56b, q56c⟩ := isOf hZ e55 f44
  obtain ⟨_, _, ⟨T56, L56, k56, n56⟩, -, X56, ⟨Lc56, hQ56, l56, y56, z56⟩, st56⟩ := X55.virtualBack hx (y := (⟨"com/example/arrivals/arrivals/core/SequenceStatistics", "meanOptimum", "()D"⟩ : MethodName)) (z := (⟨"com/example/arrivals/arrivals/core/SequenceStatistics", "meanOptimum", "()D"⟩ : MethodName)) hown (mvT hZ (hw _ (List.mem_of_getElem? (i := 29) rfl))) (mvT hZ (hw _ (List.mem_of_getElem? (i := 30) rfl))) (notFace_of_selects (args := #[]) (mvT hZ (hw _ (List.mem_of_getElem? (i := 32) rfl)))) (mvT hZ (hw _ (List.mem_of_getElem? (i := 32) rfl))) (mvT hZ (hw _ (List.mem_of_getElem? (i := 31) rfl))) (by decide) (backOf (W := 2) (rm6_2 l Z a0 hw [] t0 w2 sp2 h43 n0 Zs43 f45 f54 f46 nn21_76) hZ (hw _ (List.mem_of_getElem? (i := 33) rfl)) (hw _ (List.mem_of_getElem? (i := 2) rfl)) (by decide) (by decide)) q56a q56c (g := (mkF m 76 #[.val (.ref t0), .val (.double sw), .second, .val (.double on), .second, .val (.long op), .second, .val (.double ob2), .second, .val (.double pb2), .second, .val (.double oa2), .second, .unset, .unset] [(.ref t0), (.double (FP.l2d op))])) rfl (by rw [hml]; rfl) (Steps.refl _) (argsL := []) (rest := [(.double (FP.l2d op))]) (lenOf pd_0 rfl) rfl (by show 2 * 0 + _ ≤ _; exact Nat.le_of_eq rfl) (hb hby d4_76) (fun _ _ => ⟨rfl, e55, (by decide : 0 + 0 ≤ _), (by decide : 0 + 0 ≤ _)⟩)
  dsimp only [Pt.U, Pt.locs, Pt.cells, Pt.slots] at X56 l56 y56 z56 st56 hQ56
  subst l56 y56 z56
  obtain ⟨rfl, N56q, eh56⟩ := hQ56
  have N56 := Fr.app N55 N56q
  have e56 : T56.heap = h43 := eh56
  obtain ⟨T57, X57, e57, st57⟩ := getF X56 hx hZ hown (host := "") (Or.inl (hw _ (List.mem_of_getElem? (i := 40) rfl))) Via.refl e56 f48 (g := (mkF m 84 #[.val (.ref t0), .val (.double sw), .second, .val (.double on), .second, .val (.long op), .second, .val (.double ob2), .second, .val (.double pb2), .second, .val (.double oa2), .second, .val (.double pa2), .second] [(.ref t0), (.ref t0)])) rfl rfl (hb hby d4_84)
  obtain ⟨T58, h58, X58, e58, W58, st58⟩ := putF X57 hx hZ hown (host := "") (Or.inl (hw _ (List.mem_of_getElem? (i := 40) rfl))) Via.refl e57 f48 f44 (Or.inl (hw _ (List.mem_of_getElem? (i := 41) rfl))) (hw _ (List.mem_of_getElem? (i := 1) rfl)) (ty := .double) (by decide) rfl rfl (g := (mkF m 95 #[.val (.ref t0), .val (.double sw), .second, .val (.double on), .second, .val (.long op), .second, .val (.double ob2), .second, .val (.double pb2), .second, .val (.double oa2), .second, .val (.double pa2), .second] [(.double ma2), (.ref t0)])) rfl rfl (hb hby d4_95)
  have f59 := f44.wr W58
  have f60 := f45.other W58 (Or.inr (so_SequenceStatistics_count_comomentOnline hw))
  have f61 := f46.other W58 (Or.inr (so_SequenceStatistics_weight_comomentOnline hw))
  have f62 := f47.other W58 (Or.inr (so_SequenceStatistics_sumOnline_comomentOnline hw))
  have f63 := f54.other W58 (Or.inr (so_SequenceStatistics_sumOptimum_comomentOnline hw))
  have f64 := f49.other W58 (Or.inr (so_SequenceStatistics_comomentOptimum_comomentOnline hw))
  have f65 := f50.other W58 (Or.inr (so_SequenceStatistics_comomentBoth_comomentOnline hw))
  have f66 := f51.other W58 (Or.inr (so_SequenceStatistics_positiveWeight_comomentOnline hw))
  have f67 := f52.other W58 (Or.inr (so_SequenceStatistics_weightedRatios_comomentOnline hw))
  have f68 := f53.other W58 (Or.inr (so_SequenceStatistics_zeroWeight_comomentOnline hw))
  have K58 : Keep h0 h58 [t0] := K43.wr W58 (Or.inl (List.mem_of_getElem? (i := 0) rfl))
  have Zs58 := Nat.le_trans Zs43 (Keep.of_wr W58).1
  have N58 := Fr.snoc X58 N56 g_t0
  have f69 : Fld Z h58 t0 "com/example/arrivals/arrivals/core/SequenceStatistics" "comomentOnline" "D" (.double ma2) := f48.same W58
  obtain ⟨T70, X70, e70, st70⟩ := getF X58 hx hZ hown (host := "") (Or.inl (hw _ (List.mem_of_getElem? (i := 42) rfl))) Via.refl e58 f64 (g := (mkF m 100 #[.val (.ref t0), .val (.double sw), .second, .val (.double on), .second, .val (.long op), .second, .val (.double ob2), .second, .val (.double pb2), .second, .val (.double oa2), .second, .val (.double pa2), .second] [(.ref t0), (.ref t0)])) rfl rfl (hb hby d4_100)
  obtain ⟨T71, h71, X71, e71, W71, st71⟩ := putF X70 hx hZ hown (host := "") (Or.inl (hw _ (List.mem_of_getElem? (i := 42) rfl))) Via.refl e70 f64 f59 (Or.inl (hw _ (List.mem_of_getElem? (i := 43) rfl))) (hw _ (List.mem_of_getElem? (i := 1) rfl)) (ty := .double) (by decide) rfl rfl (g := (mkF m 111 #[.val (.ref t0), .val (.double sw), .second, .val (.double on), .second, .val (.long op), .second, .val (.double ob2), .second, .val (.double pb2), .second, .val (.double oa2), .second, .val (.double pa2), .second] [(.double mb2), (.ref t0)])) rfl rfl (hb hby d4_111)
  have f72 := f59.wr W71
  have f73 := f60.other W71 (Or.inr (so_SequenceStatistics_count_comomentOptimum hw))
  have f74 := f61.other W71 (Or.inr (so_SequenceStatistics_weight_comomentOptimum hw))
  have f75 := f62.other W71 (Or.inr (so_SequenceStatistics_sumOnline_comomentOptimum hw))
  have f76 := f63.other W71 (Or.inr (so_SequenceStatistics_sumOptimum_comomentOptimum hw))
  have f77 := f69.other W71 (Or.inr (so_SequenceStatistics_comomentOnline_comomentOptimum hw))
  have f78 := f65.other W71 (Or.inr (so_SequenceStatistics_comomentBoth_comomentOptimum hw))
  have f79 := f66.other W71 (Or.inr (so_SequenceStatistics_positiveWeight_comomentOptimum hw))
  have f80 := f67.other W71 (Or.inr (so_SequenceStatistics_weightedRatios_comomentOptimum hw))
  have f81 := f68.other W71 (Or.inr (so_SequenceStatistics_zeroWeight_comomentOptimum hw))
  have K71 : Keep h0 h71 [t0] := K58.wr W71 (Or.inl (List.mem_of_getElem? (i := 0) rfl))
  have Zs71 := Nat.le_trans Zs58 (Keep.of_wr W71).1
  have N71 := Fr.snoc X71 N58 g_t0
  have f82 : Fld Z h71 t0 "com/example/arrivals/arrivals/core/SequenceStatistics" "comomentOptimum" "D" (.double mb2) := f64.same W71
  obtain ⟨T83, X83, e83, st83⟩ := getF X71 hx hZ hown (host := "") (Or.inl (hw _ (List.mem_of_getElem? (i := 44) rfl))) Via.refl e71 f78 (g := (mkF m 116 #[.val (.ref t0), .val (.double sw), .second, .val (.double on), .second, .val (.long op), .second, .val (.double ob2), .second, .val (.double pb2), .second, .val (.double oa2), .second, .val (.double pa2), .second] [(.ref t0), (.ref t0)])) rfl rfl (hb hby d4_116)
  obtain ⟨T84, h84, X84, e84, W84, st84⟩ := putF X83 hx hZ hown (host := "") (Or.inl (hw _ (List.mem_of_getElem? (i := 44) rfl))) Via.refl e83 f78 f72 (Or.inl (hw _ (List.mem_of_getElem? (i := 45) rfl))) (hw _ (List.mem_of_getElem? (i := 1) rfl)) (ty := .double) (by decide) rfl rfl (g := (mkF m 127 #[.val (.ref t0), .val (.double sw), .second, .val (.double on), .second, .val (.long op), .second, .val (.double ob2), .second, .val (.double pb2), .second, .val (.double oa2), .second, .val (.double pa2), .second] [(.double mc2), (.ref t0)])) rfl rfl (hb hby d4_127)
  have f85 := f72.wr W84
  have f86 := f73.other W84 (Or.inr (so_SequenceStatistics_count_comomentBoth hw))
  have f87 := f74.other W84 (Or.inr (so_SequenceStatistics_weight_comomentBoth hw))
  have f88 := f75.other W84 (Or.inr (so_SequenceStatistics_sumOnline_comomentBoth hw))
  have f89 := f76.other W84 (Or.inr (so_SequenceStatistics_sumOptimum_comomentBoth hw))
  have f90 := f77.other W84 (Or.inr (so_SequenceStatistics_comomentOnline_comomentBoth hw))
  have f91 := f82.other W84 (Or.inr (so_SequenceStatistics_comomentOptimum_comomentBoth hw))
  have f92 := f79.other W84 (Or.inr (so_SequenceStatistics_positiveWeight_comomentBoth hw))
  have f93 := f80.other W84 (Or.inr (so_SequenceStatistics_weightedRatios_comomentBoth hw))
  have f94 := f81.other W84 (Or.inr (so_SequenceStatistics_zeroWeight_comomentBoth hw))
  have K84 : Keep h0 h84 [t0] := K71.wr W84 (Or.inl (List.mem_of_getElem? (i := 0) rfl))
  have Zs84 := Nat.le_trans Zs71 (Keep.of_wr W84).1
  have N84 := Fr.snoc X84 N71 g_t0
  have f95 : Fld Z h84 t0 "com/example/arrivals/arrivals/core/SequenceStatistics" "comomentBoth" "D" (.double mc2) := f78.same W84
  obtain ⟨T96, X96, e96, st96⟩ := getF X84 hx hZ hown (host := "") (Or.inl (hw _ (List.mem_of_getElem? (i := 46) rfl))) Via.refl e84 f94 (g := (mkF m 168 #[.val (.ref t0), .val (.double sw), .second, .val (.double on), .second, .val (.long op), .second, .val (.double ob2), .second, .val (.double pb2), .second, .val (.double oa2), .second, .val (.double pa2), .second] [(.ref t0), (.ref t0)])) rfl rfl (hb hby d4_168)
  obtain ⟨T97, h97, X97, e97, W97, st97⟩ := putF X96 hx hZ hown (host := "") (Or.inl (hw _ (List.mem_of_getElem? (i := 46) rfl))) Via.refl e96 f94 f85 (Or.inl (hw _ (List.mem_of_getElem? (i := 47) rfl))) (hw _ (List.mem_of_getElem? (i := 1) rfl)) (ty := .double) (by decide) rfl rfl (g := (mkF m 173 #[.val (.ref t0), .val (.double sw), .second, .val (.double on), .second, .val (.long op), .second, .val (.double ob2), .second, .val (.double pb2), .second, .val (.double oa2), .second, .val (.double pa2), .second] [(.double zw2), (.ref t0)])) rfl rfl (hb hby d4_173)
  have f98 := f85.wr W97
  have f99 := f86.other W97 (Or.inr (so_SequenceStatistics_count_zeroWeight hw))
  have f100 := f87.other W97 (Or.inr (so_SequenceStatistics_weight_zeroWeight hw))
  have f101 := f88.other W97 (Or.inr (so_SequenceStatistics_sumOnline_zeroWeight hw))
  have f102 := f89.other W97 (Or.inr (so_SequenceStatistics_sumOptimum_zeroWeight hw))
  have f103 := f90.other W97 (Or.inr (so_SequenceStatistics_comomentOnline_zeroWeight hw))
  have f104 := f91.other W97 (Or.inr (so_SequenceStatistics_comomentOptimum_zeroWeight hw))
  have f105 := f95.other W97 (Or.inr (so_SequenceStatistics_comomentBoth_zeroWeight hw))
  have f106 := f92.other W97 (Or.inr (so_SequenceStatistics_positiveWeight_zeroWeight hw))
  have f107 := f93.other W97 (Or.inr (so_SequenceStatistics_weightedRatios_zeroWeight hw))
  have K97 : Keep h0 h97 [t0] := K84.wr W97 (Or.inl (List.mem_of_getElem? (i := 0) rfl))
  have Zs97 := Nat.le_trans Zs84 (Keep.of_wr W97).1
  have N97 := Fr.snoc X97 N84 g_t0
  have f108 : Fld Z h97 t0 "com/example/arrivals/arrivals/core/SequenceStatistics" "zeroWeight" "D" (.double zw2) := f94.same W97
  obtain ⟨fs, hr, hrun, hended, hW, hsame⟩ := X97.leave (v := none) (fun _ => rfl)
  refine ⟨_, _, pre0 _ ?_, hrun, hended, _, _, rfl, ?_, ⟨_, rfl⟩, hW, hsame.mono (by decide) (by decide)⟩
  · show Steps p.tables e below (s₁.setTop (mkF m 0 #[.val (.ref t0), .val (.double sw), .second, .val (.double on), .second, .val (.long op), .second, .unset, .unset, .unset, .unset, .unset, .unset, .unset, .unset] [])) _
    refine XS.dloadN X0.here hx rfl (hb hby d4_0) rfl ?_
    show Steps p.tables e below (s₁.setTop (mkF m 1 #[.val (.ref t0), .val (.double sw), .second, .val (.double on), .second, .val (.long op), .second, .unset, .unset, .unset, .unset, .unset, .unset, .unset, .unset] [(.double on)])) _
    refine XS.aloadN X0.here hx rfl (hb hby d4_1) rfl rfl ?_
    show Steps p.tables e below (s₁.setTop (mkF m 2 #[.val (.ref t0), .val (.double sw), .second, .val (.double on), .second, .val (.long op), .second, .unset, .unset, .unset, .unset, .unset, .unset, .unset, .unset] [(.ref t0), (.double on)])) _
    refine st1.trans ?_
    show Steps p.tables e below (T1.setTop (mkF m 5 #[.val (.ref t0), .val (.double sw), .second, .val (.double on), .second, .val (.long op), .second, .unset, .unset, .unset, .unset, .unset, .unset, .unset, .unset] [(.double (FP.ddiv so1 w1)), (.double on)])) _
    refine XS.dsubS X1.here hx rfl (hb hby d4_5) rfl nn5 (v := ob2) hq5 ?_
    show Steps p.tables e below (T1.setTop (mkF m 6 #[.val (.ref t0), .val (.double sw), .second, .val (.double on), .second, .val (.long op), .second, .unset, .unset, .unset, .unset, .unset, .unset, .unset, .unset] [(.double ob2)])) _
    refine XS.dstore X1.here hx rfl (hb hby d4_6) rfl (l' := #[.val (.ref t0), .val (.double sw), .second, .val (.double on), .second, .val (.long op), .second, .val (.double ob2), .second, .unset, .unset, .unset, .unset, .unset, .unset]) rfl ?_
    show Steps p.tables e below (T1.setTop (mkF m 8 #[.val (.ref t0), .val (.double sw), .second, .val (.double on), .second, .val (.long op), .second, .val (.double ob2), .second, .unset, .unset, .unset, .unset, .unset, .unset] [])) _
    refine XS.lload X1.here hx rfl (hb hby d4_8) rfl ?_
    show Steps p.tables e below (T1.setTop (mkF m 10 #[.val (.ref t0), .val (.double sw), .second, .val (.double on), .second, .val (.long op), .second, .val (.double ob2), .second, .unset, .unset, .unset, .unset, .unset, .unset] [(.long op)])) _
    refine XS.l2dS X1.here hx rfl (hb hby d4_10) rfl (v := (FP.l2d op)) rfl ?_
    show Steps p.tables e below (T1.setTop (mkF m 11 #[.val (.ref t0), .val (.double sw), .second, .val (.double on), .second, .val (.long op), .second, .val (.double ob2), .second, .unset, .unset, .unset, .unset, .unset, .unset] [(.double (FP.l2d op))])) _
    refine XS.aloadN X1.here hx rfl (hb hby d4_11) rfl rfl ?_
    show Steps p.tables e below (T1.setTop (mkF m 12 #[.val (.ref t0), .val (.double sw), .second, .val (.double on), .second, .val (.long op), .second, .val (.double ob2), .second, .unset, .unset, .unset, .unset, .unset, .unset] [(.ref t0), (.double (FP.l2d op))])) _
    refine st2.trans ?_
    show Steps p.tables e below (T2.setTop (mkF m 15 #[.val (.ref t0), .val (.double sw), .second, .val (.double on), .second, .val (.long op), .second, .val (.double ob2), .second, .unset, .unset, .unset, .unset, .unset, .unset] [(.double (FP.ddiv sp1 w1)), (.double (FP.l2d op))])) _
    refine XS.dsubS X2.here hx rfl (hb hby d4_15) rfl nn15 (v := pb2) hq15 ?_
    show Steps p.tables e below (T2.setTop (mkF m 16 #[.val (.ref t0), .val (.double sw), .second, .val (.double on), .second, .val (.long op), .second, .val (.double ob2), .second, .unset, .unset, .unset, .unset, .unset, .unset] [(.double pb2)])) _
    refine XS.dstore X2.here hx rfl (hb hby d4_16) rfl (l' := #[.val (.ref t0), .val (.double sw), .second, .val (.double on), .second, .val (.long op), .second, .val (.double ob2), .second, .val (.double pb2), .second, .unset, .unset, .unset, .unset]) rfl ?_
    show Steps p.tables e below (T2.setTop (mkF m 18 #[.val (.ref t0), .val (.double sw), .second, .val (.double on), .second, .val (.long op), .second, .val (.double ob2), .second, .val (.double pb2), .second, .unset, .unset, .unset, .unset] [])) _
    refine XS.aloadN X2.here hx rfl (hb hby d4_18) rfl rfl ?_
    show Steps p.tables e below (T2.setTop (mkF m 19 #[.val (.ref t0), .val (.double sw), .second, .val (.double on), .second, .val (.long op), .second, .val (.double ob2), .second, .val (.double pb2), .second, .unset, .unset, .unset, .unset] [(.ref t0)])) _
    refine XS.dup X2.here hx rfl (hb hby d4_19) rfl rfl ?_
    show Steps p.tables e below (T2.setTop (mkF m 20 #[.val (.ref t0), .val (.double sw), .second, .val (.double on), .second, .val (.long op), .second, .val (.double ob2), .second, .val (.double pb2), .second, .unset, .unset, .unset, .unset] [(.ref t0), (.ref t0)])) _
    refine st3 _ ?_
    show Steps p.tables e below (T3.setTop (mkF m 23 #[.val (.ref t0), .val (.double sw), .second, .val (.double on), .second, .val (.long op), .second, .val (.double ob2), .second, .val (.double pb2), .second, .unset, .unset, .unset, .unset] [(.long (1 : Int64)), (.ref t0)])) _
    refine XS.lconst X3.here hx rfl (hb hby d4_23) ?_
    show Steps p.tables e below (T3.setTop (mkF m 24 #[.val (.ref t0), .val (.double sw), .second, .val (.double on), .second, .val (.long op), .second, .val (.double ob2), .second, .val (.double pb2), .second, .unset, .unset, .unset, .unset] [(.long (1 : Int64)), (.long (1 : Int64)), (.ref t0)])) _
    refine XS.ladd X3.here hx rfl (hb hby d4_24) rfl ?_
    show Steps p.tables e below (T3.setTop (mkF m 25 #[.val (.ref t0), .val (.double sw), .second, .val (.double on), .second, .val (.long op), .second, .val (.double ob2), .second, .val (.double pb2), .second, .unset, .unset, .unset, .unset] [(.long ((1 : Int64) + (1 : Int64))), (.ref t0)])) _
    rw [show ((1 : Int64) + (1 : Int64)) = (2 : Int64) by decide]
    show Steps p.tables e below (T3.setTop (mkF m 25 #[.val (.ref t0), .val (.double sw), .second, .val (.double on), .second, .val (.long op), .second, .val (.double ob2), .second, .val (.double pb2), .second, .unset, .unset, .unset, .unset] [(.long (2 : Int64)), (.ref t0)])) _
    refine st4 _ ?_
    show Steps p.tables e below (T4.setTop (mkF m 28 #[.val (.ref t0), .val (.double sw), .second, .val (.double on), .second, .val (.long op), .second, .val (.double ob2), .second, .val (.double pb2), .second, .unset, .unset, .unset, .unset] [])) _
    refine XS.aloadN X4.here hx rfl (hb hby d4_28) rfl rfl ?_
    show Steps p.tables e below (T4.setTop (mkF m 29 #[.val (.ref t0), .val (.double sw), .second, .val (.double on), .second, .val (.long op), .second, .val (.double ob2), .second, .val (.double pb2), .second, .unset, .unset, .unset, .unset] [(.ref t0)])) _
    refine XS.dup X4.here hx rfl (hb hby d4_29) rfl rfl ?_
    show Steps p.tables e below (T4.setTop (mkF m 30 #[.val (.ref t0), .val (.double sw), .second, .val (.double on), .second, .val (.long op), .second, .val (.double ob2), .second, .val (.double pb2), .second, .unset, .unset, .unset, .unset] [(.ref t0), (.ref t0)])) _
    refine st16 _ ?_
    show Steps p.tables e below (T16.setTop (mkF m 33 #[.val (.ref t0), .val (.double sw), .second, .val (.double on), .second, .val (.long op), .second, .val (.double ob2), .second, .val (.double pb2), .second, .unset, .unset, .unset, .unset] [(.double w1), (.ref t0)])) _
    refine XS.dloadN X16.here hx rfl (hb hby d4_33) rfl ?_
    show Steps p.tables e below (T16.setTop (mkF m 34 #[.val (.ref t0), .val (.double sw), .second, .val (.double on), .second, .val (.long op), .second, .val (.double ob2), .second, .val (.double pb2), .second, .unset, .unset, .unset, .unset] [(.double sw), (.double w1), (.ref t0)])) _
    refine XS.daddS X16.here hx rfl (hb hby d4_34) rfl nn34 (v := w2) hq34 ?_
    show Steps p.tables e below (T16.setTop (mkF m 35 #[.val (.ref t0), .val (.double sw), .second, .val (.double on), .second, .val (.long op), .second, .val (.double ob2), .second, .val (.double pb2), .second, .unset, .unset, .unset, .unset] [(.double w2), (.ref t0)])) _
    refine st17 _ ?_
    show Steps p.tables e below (T17.setTop (mkF m 38 #[.val (.ref t0), .val (.double sw), .second, .val (.double on), .second, .val (.long op), .second, .val (.double ob2), .second, .val (.double pb2), .second, .unset, .unset, .unset, .unset] [])) _
    refine XS.aloadN X17.here hx rfl (hb hby d4_38) rfl rfl ?_
    show Steps p.tables e below (T17.setTop (mkF m 39 #[.val (.ref t0), .val (.double sw), .second, .val (.double on), .second, .val (.long op), .second, .val (.double ob2), .second, .val (.double pb2), .second, .unset, .unset, .unset, .unset] [(.ref t0)])) _
    refine XS.dup X17.here hx rfl (hb hby d4_39) rfl rfl ?_
    show Steps p.tables e below (T17.setTop (mkF m 40 #[.val (.ref t0), .val (.double sw), .second, .val (.double on), .second, .val (.long op), .second, .val (.double ob2), .second, .val (.double pb2), .second, .unset, .unset, .unset, .unset] [(.ref t0), (.ref t0)])) _
    refine st29 _ ?_
    show Steps p.tables e below (T29.setTop (mkF m 43 #[.val (.ref t0), .val (.double sw), .second, .val (.double on), .second, .val (.long op), .second, .val (.double ob2), .second, .val (.double pb2), .second, .unset, .unset, .unset, .unset] [(.double so1), (.ref t0)])) _
    refine XS.dloadN X29.here hx rfl (hb hby d4_43) rfl ?_
    show Steps p.tables e below (T29.setTop (mkF m 44 #[.val (.ref t0), .val (.double sw), .second, .val (.double on), .second, .val (.long op), .second, .val (.double ob2), .second, .val (.double pb2), .second, .unset, .unset, .unset, .unset] [(.double sw), (.double so1), (.ref t0)])) _
    refine XS.dloadN X29.here hx rfl (hb hby d4_44) rfl ?_
    show Steps p.tables e below (T29.setTop (mkF m 45 #[.val (.ref t0), .val (.double sw), .second, .val (.double on), .second, .val (.long op), .second, .val (.double ob2), .second, .val (.double pb2), .second, .unset, .unset, .unset, .unset] [(.double on), (.double sw), (.double so1), (.ref t0)])) _
    refine XS.dmulS X29.here hx rfl (hb hby d4_45) rfl nn45 (v := (FP.dmul sw on)) rfl ?_
    show Steps p.tables e below (T29.setTop (mkF m 46 #[.val (.ref t0), .val (.double sw), .second, .val (.double on), .second, .val (.long op), .second, .val (.double ob2), .second, .val (.double pb2), .second, .unset, .unset, .unset, .unset] [(.double (FP.dmul sw on)), (.double so1), (.ref t0)])) _
    refine XS.daddS X29.here hx rfl (hb hby d4_46) rfl nn46 (v := so2) hq46 ?_
    show Steps p.tables e below (T29.setTop (mkF m 47 #[.val (.ref t0), .val (.double sw), .second, .val (.double on), .second, .val (.long op), .second, .val (.double ob2), .second, .val (.double pb2), .second, .unset, .unset, .unset, .unset] [(.double so2), (.ref t0)])) _
    refine st30 _ ?_
    show Steps p.tables e below (T30.setTop (mkF m 50 #[.val (.ref t0), .val (.double sw), .second, .val (.double on), .second, .val (.long op), .second, .val (.double ob2), .second, .val (.double pb2), .second, .unset, .unset, .unset, .unset] [])) _
    refine XS.aloadN X30.here hx rfl (hb hby d4_50) rfl rfl ?_
    show Steps p.tables e below (T30.setTop (mkF m 51 #[.val (.ref t0), .val (.double sw), .second, .val (.double on), .second, .val (.long op), .second, .val (.double ob2), .second, .val (.double pb2), .second, .unset, .unset, .unset, .unset] [(.ref t0)])) _
    refine XS.dup X30.here hx rfl (hb hby d4_51) rfl rfl ?_
    show Steps p.tables e below (T30.setTop (mkF m 52 #[.val (.ref t0), .val (.double sw), .second, .val (.double on), .second, .val (.long op), .second, .val (.double ob2), .second, .val (.double pb2), .second, .unset, .unset, .unset, .unset] [(.ref t0), (.ref t0)])) _
    refine st42 _ ?_
    show Steps p.tables e below (T42.setTop (mkF m 55 #[.val (.ref t0), .val (.double sw), .second, .val (.double on), .second, .val (.long op), .second, .val (.double ob2), .second, .val (.double pb2), .second, .unset, .unset, .unset, .unset] [(.double sp1), (.ref t0)])) _
    refine XS.dloadN X42.here hx rfl (hb hby d4_55) rfl ?_
    show Steps p.tables e below (T42.setTop (mkF m 56 #[.val (.ref t0), .val (.double sw), .second, .val (.double on), .second, .val (.long op), .second, .val (.double ob2), .second, .val (.double pb2), .second, .unset, .unset, .unset, .unset] [(.double sw), (.double sp1), (.ref t0)])) _
    refine XS.lload X42.here hx rfl (hb hby d4_56) rfl ?_
    show Steps p.tables e below (T42.setTop (mkF m 58 #[.val (.ref t0), .val (.double sw), .second, .val (.double on), .second, .val (.long op), .second, .val (.double ob2), .second, .val (.double pb2), .second, .unset, .unset, .unset, .unset] [(.long op), (.double sw), (.double sp1), (.ref t0)])) _
    refine XS.l2dS X42.here hx rfl (hb hby d4_58) rfl (v := (FP.l2d op)) rfl ?_
    show Steps p.tables e below (T42.setTop (mkF m 59 #[.val (.ref t0), .val (.double sw), .second, .val (.double on), .second, .val (.long op), .second, .val (.double ob2), .second, .val (.double pb2), .second, .unset, .unset, .unset, .unset] [(.double (FP.l2d op)), (.double sw), (.double sp1), (.ref t0)])) _
    refine XS.dmulS X42.here hx rfl (hb hby d4_59) rfl nn59 (v := (FP.dmul sw (FP.l2d op))) rfl ?_
    show Steps p.tables e below (T42.setTop (mkF m 60 #[.val (.ref t0), .val (.double sw), .second, .val (.double on), .second, .val (.long op), .second, .val (.double ob2), .second, .val (.double pb2), .second, .unset, .unset, .unset, .unset] [(.double (FP.dmul sw (FP.l2d op))), (.double sp1), (.ref t0)])) _
    refine XS.daddS X42.here hx rfl (hb hby d4_60) rfl nn60 (v := sp2) hq60 ?_
    show Steps p.tables e below (T42.setTop (mkF m 61 #[.val (.ref t0), .val (.double sw), .second, .val (.double on), .second, .val (.long op), .second, .val (.double ob2), .second, .val (.double pb2), .second, .unset, .unset, .unset, .unset] [(.double sp2), (.ref t0)])) _
    refine st43 _ ?_
    show Steps p.tables e below (T43.setTop (mkF m 64 #[.val (.ref t0), .val (.double sw), .second, .val (.double on), .second, .val (.long op), .second, .val (.double ob2), .second, .val (.double pb2), .second, .unset, .unset, .unset, .unset] [])) _
    refine XS.dloadN X43.here hx rfl (hb hby d4_64) rfl ?_
    show Steps p.tables e below (T43.setTop (mkF m 65 #[.val (.ref t0), .val (.double sw), .second, .val (.double on), .second, .val (.long op), .second, .val (.double ob2), .second, .val (.double pb2), .second, .unset, .unset, .unset, .unset] [(.double on)])) _
    refine XS.aloadN X43.here hx rfl (hb hby d4_65) rfl rfl ?_
    show Steps p.tables e below (T43.setTop (mkF m 66 #[.val (.ref t0), .val (.double sw), .second, .val (.double on), .second, .val (.long op), .second, .val (.double ob2), .second, .val (.double pb2), .second, .unset, .unset, .unset, .unset] [(.ref t0), (.double on)])) _
    refine st55.trans ?_
    show Steps p.tables e below (T55.setTop (mkF m 69 #[.val (.ref t0), .val (.double sw), .second, .val (.double on), .second, .val (.long op), .second, .val (.double ob2), .second, .val (.double pb2), .second, .unset, .unset, .unset, .unset] [(.double (FP.ddiv so2 w2)), (.double on)])) _
    refine XS.dsubS X55.here hx rfl (hb hby d4_69) rfl nn69 (v := oa2) hq69 ?_
    show Steps p.tables e below (T55.setTop (mkF m 70 #[.val (.ref t0), .val (.double sw), .second, .val (.double on), .second, .val (.long op), .second, .val (.double ob2), .second, .val (.double pb2), .second, .unset, .unset, .unset, .unset] [(.double oa2)])) _
    refine XS.dstore X55.here hx rfl (hb hby d4_70) rfl (l' := #[.val (.ref t0), .val (.double sw), .second, .val (.double on), .second, .val (.long op), .second, .val (.double ob2), .second, .val (.double pb2), .second, .val (.double oa2), .second, .unset, .unset]) rfl ?_
    show Steps p.tables e below (T55.setTop (mkF m 72 #[.val (.ref t0), .val (.double sw), .second, .val (.double on), .second, .val (.long op), .second, .val (.double ob2), .second, .val (.double pb2), .second, .val (.double oa2), .second, .unset, .unset] [])) _
    refine XS.lload X55.here hx rfl (hb hby d4_72) rfl ?_
    show Steps p.tables e below (T55.setTop (mkF m 74 #[.val (.ref t0), .val (.double sw), .second, .val (.double on), .second, .val (.long op), .second, .val (.double ob2), .second, .val (.double pb2), .second, .val (.double oa2), .second, .unset, .unset] [(.long op)])) _
    refine XS.l2dS X55.here hx rfl (hb hby d4_74) rfl (v := (FP.l2d op)) rfl ?_
    show Steps p.tables e below (T55.setTop (mkF m 75 #[.val (.ref t0), .val (.double sw), .second, .val (.double on), .second, .val (.long op), .second, .val (.double ob2), .second, .val (.double pb2), .second, .val (.double oa2), .second, .unset, .unset] [(.double (FP.l2d op))])) _
    refine XS.aloadN X55.here hx rfl (hb hby d4_75) rfl rfl ?_
    show Steps p.tables e below (T55.setTop (mkF m 76 #[.val (.ref t0), .val (.double sw), .second, .val (.double on), .second, .val (.long op), .second, .val (.double ob2), .second, .val (.double pb2), .second, .val (.double oa2), .second, .unset, .unset] [(.ref t0), (.double (FP.l2d op))])) _
    refine st56.trans ?_
    show Steps p.tables e below (T56.setTop (mkF m 79 #[.val (.ref t0), .val (.double sw), .second, .val (.double on), .second, .val (.long op), .second, .val (.double ob2), .second, .val (.double pb2), .second, .val (.double oa2), .second, .unset, .unset] [(.double (FP.ddiv sp2 w2)), (.double (FP.l2d op))])) _
    refine XS.dsubS X56.here hx rfl (hb hby d4_79) rfl nn79 (v := pa2) hq79 ?_
    show Steps p.tables e below (T56.setTop (mkF m 80 #[.val (.ref t0), .val (.double sw), .second, .val (.double on), .second, .val (.long op), .second, .val (.double ob2), .second, .val (.double pb2), .second, .val (.double oa2), .second, .unset, .unset] [(.double pa2)])) _
    refine XS.dstore X56.here hx rfl (hb hby d4_80) rfl (l' := #[.val (.ref t0), .val (.double sw), .second, .val (.double on), .second, .val (.long op), .second, .val (.double ob2), .second, .val (.double pb2), .second, .val (.double oa2), .second, .val (.double pa2), .second]) rfl ?_
    show Steps p.tables e below (T56.setTop (mkF m 82 #[.val (.ref t0), .val (.double sw), .second, .val (.double on), .second, .val (.long op), .second, .val (.double ob2), .second, .val (.double pb2), .second, .val (.double oa2), .second, .val (.double pa2), .second] [])) _
    refine XS.aloadN X56.here hx rfl (hb hby d4_82) rfl rfl ?_
    show Steps p.tables e below (T56.setTop (mkF m 83 #[.val (.ref t0), .val (.double sw), .second, .val (.double on), .second, .val (.long op), .second, .val (.double ob2), .second, .val (.double pb2), .second, .val (.double oa2), .second, .val (.double pa2), .second] [(.ref t0)])) _
    refine XS.dup X56.here hx rfl (hb hby d4_83) rfl rfl ?_
    show Steps p.tables e below (T56.setTop (mkF m 84 #[.val (.ref t0), .val (.double sw), .second, .val (.double on), .second, .val (.long op), .second, .val (.double ob2), .second, .val (.double pb2), .second, .val (.double oa2), .second, .val (.double pa2), .second] [(.ref t0), (.ref t0)])) _
    refine st57 _ ?_
    show Steps p.tables e below (T57.setTop (mkF m 87 #[.val (.ref t0), .val (.double sw), .second, .val (.double on), .second, .val (.long op), .second, .val (.double ob2), .second, .val (.double pb2), .second, .val (.double oa2), .second, .val (.double pa2), .second] [(.double ma1), (.ref t0)])) _
    refine XS.dloadN X57.here hx rfl (hb hby d4_87) rfl ?_
    show Steps p.tables e below (T57.setTop (mkF m 88 #[.val (.ref t0), .val (.double sw), .second, .val (.double on), .second, .val (.long op), .second, .val (.double ob2), .second, .val (.double pb2), .second, .val (.double oa2), .second, .val (.double pa2), .second] [(.double sw), (.double ma1), (.ref t0)])) _
    refine XS.dload X57.here hx rfl (hb hby d4_88) rfl ?_
    show Steps p.tables e below (T57.setTop (mkF m 90 #[.val (.ref t0), .val (.double sw), .second, .val (.double on), .second, .val (.long op), .second, .val (.double ob2), .second, .val (.double pb2), .second, .val (.double oa2), .second, .val (.double pa2), .second] [(.double ob2), (.double sw), (.double ma1), (.ref t0)])) _
    refine XS.dmulS X57.here hx rfl (hb hby d4_90) rfl nn90 (v := (FP.dmul sw ob2)) rfl ?_
    show Steps p.tables e below (T57.setTop (mkF m 91 #[.val (.ref t0), .val (.double sw), .second, .val (.double on), .second, .val (.long op), .second, .val (.double ob2), .second, .val (.double pb2), .second, .val (.double oa2), .second, .val (.double pa2), .second] [(.double (FP.dmul sw ob2)), (.double ma1), (.ref t0)])) _
    refine XS.dload X57.here hx rfl (hb hby d4_91) rfl ?_
    show Steps p.tables e below (T57.setTop (mkF m 93 #[.val (.ref t0), .val (.double sw), .second, .val (.double on), .second, .val (.long op), .second, .val (.double ob2), .second, .val (.double pb2), .second, .val (.double oa2), .second, .val (.double pa2), .second] [(.double oa2), (.double (FP.dmul sw ob2)), (.double ma1), (.ref t0)])) _
    refine XS.dmulS X57.here hx rfl (hb hby d4_93) rfl nn93 (v := (FP.dmul (FP.dmul sw ob2) oa2)) rfl ?_
    show Steps p.tables e below (T57.setTop (mkF m 94 #[.val (.ref t0), .val (.double sw), .second, .val (.double on), .second, .val (.long op), .second, .val (.double ob2), .second, .val (.double pb2), .second, .val (.double oa2), .second, .val (.double pa2), .second] [(.double (FP.dmul (FP.dmul sw ob2) oa2)), (.double ma1), (.ref t0)])) _
    refine XS.daddS X57.here hx rfl (hb hby d4_94) rfl nn94 (v := ma2) hq94 ?_
    show Steps p.tables e below (T57.setTop (mkF m 95 #[.val (.ref t0), .val (.double sw), .second, .val (.double on), .second, .val (.long op), .second, .val (.double ob2), .second, .val (.double pb2), .second, .val (.double oa2), .second, .val (.double pa2), .second] [(.double ma2), (.ref t0)])) _
    refine st58 _ ?_
    show Steps p.tables e below (T58.setTop (mkF m 98 #[.val (.ref t0), .val (.double sw), .second, .val (.double on), .second, .val (.long op), .second, .val (.double ob2), .second, .val (.double pb2), .second, .val (.double oa2), .second, .val (.double pa2), .second] [])) _
    refine XS.aloadN X58.here hx rfl (hb hby d4_98) rfl rfl ?_
    show Steps p.tables e below (T58.setTop (mkF m 99 #[.val (.ref t0), .val (.double sw), .second, .val (.double on), .second, .val (.long op), .second, .val (.double ob2), .second, .val (.double pb2), .second, .val (.double oa2), .second, .val (.double pa2), .second] [(.ref t0)])) _
    refine XS.dup X58.here hx rfl (hb hby d4_99) rfl rfl ?_
    show Steps p.tables e below (T58.setTop (mkF m 100 #[.val (.ref t0), .val (.double sw), .second, .val (.double on), .second, .val (.long op), .second, .val (.double ob2), .second, .val (.double pb2), .second, .val (.double oa2), .second, .val (.double pa2), .second] [(.ref t0), (.ref t0)])) _
    refine st70 _ ?_
    show Steps p.tables e below (T70.setTop (mkF m 103 #[.val (.ref t0), .val (.double sw), .second, .val (.double on), .second, .val (.long op), .second, .val (.double ob2), .second, .val (.double pb2), .second, .val (.double oa2), .second, .val (.double pa2), .second] [(.double mb1), (.ref t0)])) _
    refine XS.dloadN X70.here hx rfl (hb hby d4_103) rfl ?_
    show Steps p.tables e below (T70.setTop (mkF m 104 #[.val (.ref t0), .val (.double sw), .second, .val (.double on), .second, .val (.long op), .second, .val (.double ob2), .second, .val (.double pb2), .second, .val (.double oa2), .second, .val (.double pa2), .second] [(.double sw), (.double mb1), (.ref t0)])) _
    refine XS.dload X70.here hx rfl (hb hby d4_104) rfl ?_
    show Steps p.tables e below (T70.setTop (mkF m 106 #[.val (.ref t0), .val (.double sw), .second, .val (.double on), .second, .val (.long op), .second, .val (.double ob2), .second, .val (.double pb2), .second, .val (.double oa2), .second, .val (.double pa2), .second] [(.double pb2), (.double sw), (.double mb1), (.ref t0)])) _
    refine XS.dmulS X70.here hx rfl (hb hby d4_106) rfl nn106 (v := (FP.dmul sw pb2)) rfl ?_
    show Steps p.tables e below (T70.setTop (mkF m 107 #[.val (.ref t0), .val (.double sw), .second, .val (.double on), .second, .val (.long op), .second, .val (.double ob2), .second, .val (.double pb2), .second, .val (.double oa2), .second, .val (.double pa2), .second] [(.double (FP.dmul sw pb2)), (.double mb1), (.ref t0)])) _
    refine XS.dload X70.here hx rfl (hb hby d4_107) rfl ?_
    show Steps p.tables e below (T70.setTop (mkF m 109 #[.val (.ref t0), .val (.double sw), .second, .val (.double on), .second, .val (.long op), .second, .val (.double ob2), .second, .val (.double pb2), .second, .val (.double oa2), .second, .val (.double pa2), .second] [(.double pa2), (.double (FP.dmul sw pb2)), (.double mb1), (.ref t0)])) _
    refine XS.dmulS X70.here hx rfl (hb hby d4_109) rfl nn109 (v := (FP.dmul (FP.dmul sw pb2) pa2)) rfl ?_
    show Steps p.tables e below (T70.setTop (mkF m 110 #[.val (.ref t0), .val (.double sw), .second, .val (.double on), .second, .val (.long op), .second, .val (.double ob2), .second, .val (.double pb2), .second, .val (.double oa2), .second, .val (.double pa2), .second] [(.double (FP.dmul (FP.dmul sw pb2) pa2)), (.double mb1), (.ref t0)])) _
    refine XS.daddS X70.here hx rfl (hb hby d4_110) rfl nn110 (v := mb2) hq110 ?_
    show Steps p.tables e below (T70.setTop (mkF m 111 #[.val (.ref t0), .val (.double sw), .second, .val (.double on), .second, .val (.long op), .second, .val (.double ob2), .second, .val (.double pb2), .second, .val (.double oa2), .second, .val (.double pa2), .second] [(.double mb2), (.ref t0)])) _
    refine st71 _ ?_
    show Steps p.tables e below (T71.setTop (mkF m 114 #[.val (.ref t0), .val (.double sw), .second, .val (.double on), .second, .val (.long op), .second, .val (.double ob2), .second, .val (.double pb2), .second, .val (.double oa2), .second, .val (.double pa2), .second] [])) _
    refine XS.aloadN X71.here hx rfl (hb hby d4_114) rfl rfl ?_
    show Steps p.tables e below (T71.setTop (mkF m 115 #[.val (.ref t0), .val (.double sw), .second, .val (.double on), .second, .val (.long op), .second, .val (.double ob2), .second, .val (.double pb2), .second, .val (.double oa2), .second, .val (.double pa2), .second] [(.ref t0)])) _
    refine XS.dup X71.here hx rfl (hb hby d4_115) rfl rfl ?_
    show Steps p.tables e below (T71.setTop (mkF m 116 #[.val (.ref t0), .val (.double sw), .second, .val (.double on), .second, .val (.long op), .second, .val (.double ob2), .second, .val (.double pb2), .second, .val (.double oa2), .second, .val (.double pa2), .second] [(.ref t0), (.ref t0)])) _
    refine st83 _ ?_
    show Steps p.tables e below (T83.setTop (mkF m 119 #[.val (.ref t0), .val (.double sw), .second, .val (.double on), .second, .val (.long op), .second, .val (.double ob2), .second, .val (.double pb2), .second, .val (.double oa2), .second, .val (.double pa2), .second] [(.double mc1), (.ref t0)])) _
    refine XS.dloadN X83.here hx rfl (hb hby d4_119) rfl ?_
    show Steps p.tables e below (T83.setTop (mkF m 120 #[.val (.ref t0), .val (.double sw), .second, .val (.double on), .second, .val (.long op), .second, .val (.double ob2), .second, .val (.double pb2), .second, .val (.double oa2), .second, .val (.double pa2), .second] [(.double sw), (.double mc1), (.ref t0)])) _
    refine XS.dload X83.here hx rfl (hb hby d4_120) rfl ?_
    show Steps p.tables e below (T83.setTop (mkF m 122 #[.val (.ref t0), .val (.double sw), .second, .val (.double on), .second, .val (.long op), .second, .val (.double ob2), .second, .val (.double pb2), .second, .val (.double oa2), .second, .val (.double pa2), .second] [(.double ob2), (.double sw), (.double mc1), (.ref t0)])) _
    refine XS.dmulS X83.here hx rfl (hb hby d4_122) rfl nn122 (v := (FP.dmul sw ob2)) rfl ?_
    show Steps p.tables e below (T83.setTop (mkF m 123 #[.val (.ref t0), .val (.double sw), .second, .val (.double on), .second, .val (.long op), .second, .val (.double ob2), .second, .val (.double pb2), .second, .val (.double oa2), .second, .val (.double pa2), .second] [(.double (FP.dmul sw ob2)), (.double mc1), (.ref t0)])) _
    refine XS.dload X83.here hx rfl (hb hby d4_123) rfl ?_
    show Steps p.tables e below (T83.setTop (mkF m 125 #[.val (.ref t0), .val (.double sw), .second, .val (.double on), .second, .val (.long op), .second, .val (.double ob2), .second, .val (.double pb2), .second, .val (.double oa2), .second, .val (.double pa2), .second] [(.double pa2), (.double (FP.dmul sw ob2)), (.double mc1), (.ref t0)])) _
    refine XS.dmulS X83.here hx rfl (hb hby d4_125) rfl nn125 (v := (FP.dmul (FP.dmul sw ob2) pa2)) rfl ?_
    show Steps p.tables e below (T83.setTop (mkF m 126 #[.val (.ref t0), .val (.double sw), .second, .val (.double on), .second, .val (.long op), .second, .val (.double ob2), .second, .val (.double pb2), .second, .val (.double oa2), .second, .val (.double pa2), .second] [(.double (FP.dmul (FP.dmul sw ob2) pa2)), (.double mc1), (.ref t0)])) _
    refine XS.daddS X83.here hx rfl (hb hby d4_126) rfl nn126 (v := mc2) hq126 ?_
    show Steps p.tables e below (T83.setTop (mkF m 127 #[.val (.ref t0), .val (.double sw), .second, .val (.double on), .second, .val (.long op), .second, .val (.double ob2), .second, .val (.double pb2), .second, .val (.double oa2), .second, .val (.double pa2), .second] [(.double mc2), (.ref t0)])) _
    refine st84 _ ?_
    show Steps p.tables e below (T84.setTop (mkF m 130 #[.val (.ref t0), .val (.double sw), .second, .val (.double on), .second, .val (.long op), .second, .val (.double ob2), .second, .val (.double pb2), .second, .val (.double oa2), .second, .val (.double pa2), .second] [])) _
    refine XS.lload X84.here hx rfl (hb hby d4_130) rfl ?_
    show Steps p.tables e below (T84.setTop (mkF m 132 #[.val (.ref t0), .val (.double sw), .second, .val (.double on), .second, .val (.long op), .second, .val (.double ob2), .second, .val (.double pb2), .second, .val (.double oa2), .second, .val (.double pa2), .second] [(.long op)])) _
    refine XS.lconst X84.here hx rfl (hb hby d4_132) ?_
    show Steps p.tables e below (T84.setTop (mkF m 133 #[.val (.ref t0), .val (.double sw), .second, .val (.double on), .second, .val (.long op), .second, .val (.double ob2), .second, .val (.double pb2), .second, .val (.double oa2), .second, .val (.double pa2), .second] [(.long (0 : Int64)), (.long op)])) _
    refine XS.lcmp X84.here hx rfl (hb hby d4_133) rfl ?_
    show Steps p.tables e below (T84.setTop (mkF m 134 #[.val (.ref t0), .val (.double sw), .second, .val (.double on), .second, .val (.long op), .second, .val (.double ob2), .second, .val (.double pb2), .second, .val (.double oa2), .second, .val (.double pa2), .second] [(.int (lcmpW op (0 : Int64)))])) _
    refine XS.ifYes X84.here hx rfl (pc0 := 134) (pc' := 166) rfl (hb hby d4_134) rfl ((if0 _ _).trans (flt hc134).2.2.2) (by decide) (by decide) ?_
    show Steps p.tables e below (T84.setTop (mkF m 166 #[.val (.ref t0), .val (.double sw), .second, .val (.double on), .second, .val (.long op), .second, .val (.double ob2), .second, .val (.double pb2), .second, .val (.double oa2), .second, .val (.double pa2), .second] [])) _
    refine XS.aloadN X84.here hx rfl (hb hby d4_166) rfl rfl ?_
    show Steps p.tables e below (T84.setTop (mkF m 167 #[.val (.ref t0), .val (.double sw), .second, .val (.double on), .second, .val (.long op), .second, .val (.double ob2), .second, .val (.double pb2), .second, .val (.double oa2), .second, .val (.double pa2), .second] [(.ref t0)])) _
    refine XS.dup X84.here hx rfl (hb hby d4_167) rfl rfl ?_
    show Steps p.tables e below (T84.setTop (mkF m 168 #[.val (.ref t0), .val (.double sw), .second, .val (.double on), .second, .val (.long op), .second, .val (.double ob2), .second, .val (.double pb2), .second, .val (.double oa2), .second, .val (.double pa2), .second] [(.ref t0), (.ref t0)])) _
    refine st96 _ ?_
    show Steps p.tables e below (T96.setTop (mkF m 171 #[.val (.ref t0), .val (.double sw), .second, .val (.double on), .second, .val (.long op), .second, .val (.double ob2), .second, .val (.double pb2), .second, .val (.double oa2), .second, .val (.double pa2), .second] [(.double zw1), (.ref t0)])) _
    refine XS.dloadN X96.here hx rfl (hb hby d4_171) rfl ?_
    show Steps p.tables e below (T96.setTop (mkF m 172 #[.val (.ref t0), .val (.double sw), .second, .val (.double on), .second, .val (.long op), .second, .val (.double ob2), .second, .val (.double pb2), .second, .val (.double oa2), .second, .val (.double pa2), .second] [(.double sw), (.double zw1), (.ref t0)])) _
    refine XS.daddS X96.here hx rfl (hb hby d4_172) rfl nn172 (v := zw2) hq172 ?_
    show Steps p.tables e below (T96.setTop (mkF m 173 #[.val (.ref t0), .val (.double sw), .second, .val (.double on), .second, .val (.long op), .second, .val (.double ob2), .second, .val (.double pb2), .second, .val (.double oa2), .second, .val (.double pa2), .second] [(.double zw2), (.ref t0)])) _
    refine st97 _ ?_
    show Steps p.tables e below (T97.setTop (mkF m 176 #[.val (.ref t0), .val (.double sw), .second, .val (.double on), .second, .val (.long op), .second, .val (.double ob2), .second, .val (.double pb2), .second, .val (.double oa2), .second, .val (.double pa2), .second] [])) _
    exact X97.returnOut hx Bd.returns (hb hby d4_176) hr
  · show Q_rm4_1z Z t0 sw on op w1 so1 sp1 ma1 mb1 mc1 pw1 wr1 zw1 ob2 pb2 w2 so2 sp2 oa2 pa2 ma2 mb2 mc2 zw2 h0 n0 _ T97.heap _
    rw [e97]
    exact ⟨rfl, N97, K97, f98, f99, f100, f101, f102, f103, f104, f105, f106, f107, f108⟩
theorem d3_0 : decode prog_26_method_7_code 0 = .ok (.aload_n 0, 1) := by decide +kernel
theorem d3_1 : decode prog_26_method_7_code 1 = .ok (.getfield 39, 3) := by decide +kernel
theorem d3_4 : decode prog_26_method_7_code 4 = .ok (.dconst 0, 1) := by decide +kernel
theorem d3_5 : decode prog_26_method_7_code 5 = .ok (.dcmp .l, 1) := by decide +kernel
theorem d3_6 : decode prog_26_method_7_code 6 = .ok (.ifCond .ne 9, 3) := by decide +kernel
theorem d3_9 : decode prog_26_method_7_code 9 = .ok (.ldc2_w 50, 3) := by decide +kernel
theorem d3_12 : decode prog_26_method_7_code 12 = .ok (.goto 12, 3) := by decide +kernel
theorem d3_24 : decode prog_26_method_7_code 24 = .ok (.dreturn, 1) := by decide +kernel
theorem ef_3_R (m : MethodId) (x0 : Addr) : entryFrame m #[(.ref x0)] 1 = mkF m 0 #[.val (.ref x0)] [] := by first | (simp [entryFrame, mkF, argsToLocals, Value.category]; done) | rfl
def Q_rm3z (Z : State) (t0 : Addr) (pw : UInt64) (wr : UInt64) (h0 : Heap) (n0 : Nat) (v : Option Value) (h : Heap) (L : List Loc) : Prop := v = some (.double (9221120237041090560 : UInt64)) ∧ Fr n0 L ∧ h = h0
set_option maxRecDepth 65536 in
set_option maxHeartbeats 40000000 in
theorem rm3z (l : Launch) (Z : State) (a0 : Array Value) (hw : ∀ d ∈ tables_1, d.before a0 Z = true) (ws : List Jvm.Cond) (t0 : Addr) (pw : UInt64) (wr : UInt64) (h0 : Heap) (n0 : Nat) (Z0 : n0 ≤ h0.size) (F_positiveWeight_t0 : Fld Z h0 t0 "com/example/arrivals/arrivals/core/SequenceStatistics" "positiveWeight" "D" (.double pw)) (F_weightedRatios_t0 : Fld Z h0 t0 "com/example/arrivals/arrivals/core/SequenceStatistics" "weightedRatios" "D" (.double wr)) (hd5 : (cmpValue (FP.dcmp pw (0 : UInt64)) .l) = (0 : Int32)) :
    MetFree l (⟨"com/example/arrivals/arrivals/core/SequenceStatistics", "expectedRatio", "()D"⟩ : MethodName) (head1 (Jvm.Cond.code (⟨"com/example/arrivals/arrivals/core/SequenceStatistics", "expectedRatio", "()D"⟩ : MethodName) prog_26_method_7_code 1 (some .double) :: ws) ({ frames := 0, cells := 0, slots := 0, locals := 0 } : Room)) (fun a U => a = #[(.ref t0)] ∧ Z.Warmed39 U.vm ∧ U.heap = h0) (fun _ _ _ _ _ => True) (fun _ U o U' => ∃ v L, o = .returned v ∧ Q_rm3z Z t0 pw wr h0 n0 v U'.heap L ∧ FrameEnd U o U' L ({ frames := 0, cells := 0, slots := 0, locals := 0 } : Room).cells ({ frames := 0, cells := 0, slots := 0, locals := 0 } : Room).slots) := by
  refine MetFree.of_bodySF (plainFor_of_name pn_com_example_arrivals_arrivals_core_SequenceStatistics) hisR ?_
  intro p e s m args below meth c s₁ Bd hml0 hP hK
  obtain ⟨rfl, hZ, hh⟩ := hP
  have hx := Bd.exec
  have hby := Bd.bytes
  have hml : c.maxLocals = 1 := hml0
  have hown : s.vm.findClass "com/example/arrivals/arrivals/core/SequenceStatistics" = some m.cls := findClass_of_methodNamed Bd.named
  have hnm := (name_of_methodNamed Bd.named Bd.method).1
  have X0 : Stand p l e ({ frames := 0, cells := 0, slots := 0, locals := 0 } : Room) s m #[(.ref t0)] below meth c s₁ [] 0 0 := Stand.of_body Bd
  have e0 : s₁.heap = h0 := by rw [← hh, Bd.state]; rfl
  have N0 := Fr.nil n0
  have pre0 : ∀ t, Steps p.tables e below (s₁.setTop (mkF m 0 #[.val (.ref t0)] [])) t → Steps p.tables e below (s₁.setTop (entryFrame m #[(.ref t0)] 1)) t := fun t k => castTop (ef_3_R m t0) k
  obtain ⟨T1, X1, e1, st1⟩ := getF X0 hx hZ hown (host := "") (Or.inl (hw _ (List.mem_of_getElem? (i := 14) rfl))) Via.refl e0 F_positiveWeight_t0 (g := (mkF m 1 #[.val (.ref t0)] [(.ref t0)])) rfl rfl (hb hby d3_1)
  obtain ⟨fs, hr, hrun, hended, hW, hsame⟩ := X1.leave (v := some (.double (9221120237041090560 : UInt64))) (fun h => by rw [Bd.returns] at h; cases h)
  refine ⟨_, _, pre0 _ ?_, hrun, hended, _, _, rfl, ?_, ⟨_, rfl⟩, hW, hsame.mono (by decide) (by decide)⟩
  · show Steps p.tables e below (s₁.setTop (mkF m 0 #[.val (.ref t0)] [])) _
    refine XS.aloadN X0.here hx rfl (hb hby d3_0) rfl rfl ?_
    show Steps p.tables e below (s₁.setTop (mkF m 1 #[.val (.ref t0)] [(.ref t0)])) _
    refine st1 _ ?_
    show Steps p.tables e below (T1.setTop (mkF m 4 #[.val (.ref t0)] [(.double pw)])) _
    refine XS.dconst0 X1.here hx rfl (hb hby d3_4) (v := (0 : UInt64)) rfl ?_
    show Steps p.tables e below (T1.setTop (mkF m 5 #[.val (.ref t0)] [(.double (0 : UInt64)), (.double pw)])) _
    refine XS.dcmpS X1.here hx rfl (hb hby d3_5) rfl (v := (0 : Int32)) hd5 ?_
    show Steps p.tables e below (T1.setTop (mkF m 6 #[.val (.ref t0)] [(.int (0 : Int32))])) _
    refine XS.ifNo X1.here hx rfl (hb hby d3_6) rfl ((if0 _ _).trans (teq (by decide : (0 : Int32) = (0 : Int32))).2) ?_
    show Steps p.tables e below (T1.setTop (mkF m 9 #[.val (.ref t0)] [])) _
    refine X1.ldc2DoubleC hx hown (mvT hZ (hw _ (List.mem_of_getElem? (i := 16) rfl))) (g := (mkF m 9 #[.val (.ref t0)] [])) rfl (hb hby d3_9) _ ?_
    show Steps p.tables e below (T1.setTop (mkF m 12 #[.val (.ref t0)] [(.double (9221120237041090560 : UInt64))])) _
    refine XS.goto X1.here hx rfl (pc0 := 12) (pc' := 24) rfl (hb hby d3_12) (by decide) (by decide) ?_
    show Steps p.tables e below (T1.setTop (mkF m 24 #[.val (.ref t0)] [(.double (9221120237041090560 : UInt64))])) _
    exact retOut X1 hx Bd.returns rfl (Or.inr (Or.inr (Or.inl ⟨rfl, rfl, _, rfl⟩))) (hb hby d3_24) hr
  · show Q_rm3z Z t0 pw wr h0 n0 _ T1.heap _
    rw [e1]
    exact ⟨rfl, N0, rfl⟩
theorem d3_15 : decode prog_26_method_7_code 15 = .ok (.aload_n 0, 1) := by decide +kernel
theorem d3_16 : decode prog_26_method_7_code 16 = .ok (.getfield 42, 3) := by decide +kernel
theorem d3_19 : decode prog_26_method_7_code 19 = .ok (.aload_n 0, 1) := by decide +kernel
theorem d3_20 : decode prog_26_method_7_code 20 = .ok (.getfield 39, 3) := by decide +kernel
theorem d3_23 : decode prog_26_method_7_code 23 = .ok (.ddiv, 1) := by decide +kernel
def Q_rm3n (Z : State) (t0 : Addr) (pw : UInt64) (wr : UInt64) (h0 : Heap) (n0 : Nat) (v : Option Value) (h : Heap) (L : List Loc) : Prop := v = some (.double (FP.ddiv wr pw)) ∧ Fr n0 L ∧ h = h0
set_option maxRecDepth 65536 in
set_option maxHeartbeats 40000000 in
theorem rm3n (l : Launch) (Z : State) (a0 : Array Value) (hw : ∀ d ∈ tables_1, d.before a0 Z = true) (ws : List Jvm.Cond) (t0 : Addr) (pw : UInt64) (wr : UInt64) (h0 : Heap) (n0 : Nat) (Z0 : n0 ≤ h0.size) (F_positiveWeight_t0 : Fld Z h0 t0 "com/example/arrivals/arrivals/core/SequenceStatistics" "positiveWeight" "D" (.double pw)) (F_weightedRatios_t0 : Fld Z h0 t0 "com/example/arrivals/arrivals/core/SequenceStatistics" "weightedRatios" "D" (.double wr)) (hd5 : (cmpValue (FP.dcmp pw (0 : UInt64)) .l) = (1 : Int32)) (nn23 : Jvm.Free.Fl.NoNaN64 (FP.ddiv wr pw)) :
    MetFree l (⟨"com/example/arrivals/arrivals/core/SequenceStatistics", "expectedRatio", "()D"⟩ : MethodName) (head1 (Jvm.Cond.code (⟨"com/example/arrivals/arrivals/core/SequenceStatistics", "expectedRatio", "()D"⟩ : MethodName) prog_26_method_7_code 1 (some .double) :: ws) ({ frames := 0, cells := 0, slots := 0, locals := 0 } : Room)) (fun a U => a = #[(.ref t0)] ∧ Z.Warmed39 U.vm ∧ U.heap = h0) (fun _ _ _ _ _ => True) (fun _ U o U' => ∃ v L, o = .returned v ∧ Q_rm3n Z t0 pw wr h0 n0 v U'.heap L ∧ FrameEnd U o U' L ({ frames := 0, cells := 0, slots := 0, locals := 0 } : Room).cells ({ frames := 0, cells := 0, slots := 0, locals := 0 } : Room).slots) := by
  refine MetFree.of_bodySF (plainFor_of_name pn_com_example_arrivals_arrivals_core_SequenceStatistics) hisR ?_
  intro p e s m args below meth c s₁ Bd hml0 hP hK
  obtain ⟨rfl, hZ, hh⟩ := hP
  have hx := Bd.exec
  have hby := Bd.bytes
  have hml : c.maxLocals = 1 := hml0
  have hown : s.vm.findClass "com/example/arrivals/arrivals/core/SequenceStatistics" = some m.cls := findClass_of_methodNamed Bd.named
  have hnm := (name_of_methodNamed Bd.named Bd.method).1
  have X0 : Stand p l e ({ frames := 0, cells := 0, slots := 0, locals := 0 } : Room) s m #[(.ref t0)] below meth c s₁ [] 0 0 := Stand.of_body Bd
  have e0 : s₁.heap = h0 := by rw [← hh, Bd.state]; rfl
  have N0 := Fr.nil n0
  have pre0 : ∀ t, Steps p.tables e below (s₁.setTop (mkF m 0 #[.val (.ref t0)] [])) t → Steps p.tables e below (s₁.setTop (entryFrame m #[(.ref t0)] 1)) t := fun t k => castTop (ef_3_R m t0) k
  obtain ⟨T1, X1, e1, st1⟩ := getF X0 hx hZ hown (host := "") (Or.inl (hw _ (List.mem_of_getElem? (i := 14) rfl))) Via.refl e0 F_positiveWeight_t0 (g := (mkF m 1 #[.val (.ref t0)] [(.ref t0)])) rfl rfl (hb hby d3_1)
  obtain ⟨T2, X2, e2, st2⟩ := getF X1 hx hZ hown (host := "") (Or.inl (hw _ (List.mem_of_getElem? (i := 48) rfl))) Via.refl e1 F_weightedRatios_t0 (g := (mkF m 16 #[.val (.ref t0)] [(.ref t0)])) rfl rfl (hb hby d3_16)
  obtain ⟨T3, X3, e3, st3⟩ := getF X2 hx hZ hown (host := "") (Or.inl (hw _ (List.mem_of_getElem? (i := 14) rfl))) Via.refl e2 F_positiveWeight_t0 (g := (mkF m 20 #[.val (.ref t0)] [(.ref t0), (.double wr)])) rfl rfl (hb hby d3_20)
  obtain ⟨fs, hr, hrun, hended, hW, hsame⟩ := X3.leave (v := some (.double (FP.ddiv wr pw))) (fun h => by rw [Bd.returns] at h; cases h)
  refine ⟨_, _, pre0 _ ?_, hrun, hended, _, _, rfl, ?_, ⟨_, rfl⟩, hW, hsame.mono (by decide) (by decide)⟩
  · show Steps p.tables e below (s₁.setTop (mkF m 0 #[.val (.ref t0)] [])) _
    refine XS.aloadN X0.here hx rfl (hb hby d3_0) rfl rfl ?_
    show Steps p.tables e below (s₁.setTop (mkF m 1 #[.val (.ref t0)] [(.ref t0)])) _
    refine st1 _ ?_
    show Steps p.tables e below (T1.setTop (mkF m 4 #[.val (.ref t0)] [(.double pw)])) _
    refine XS.dconst0 X1.here hx rfl (hb hby d3_4) (v := (0 : UInt64)) rfl ?_
    show Steps p.tables e below (T1.setTop (mkF m 5 #[.val (.ref t0)] [(.double (0 : UInt64)), (.double pw)])) _
    refine XS.dcmpS X1.here hx rfl (hb hby d3_5) rfl (v := (1 : Int32)) hd5 ?_
    show Steps p.tables e below (T1.setTop (mkF m 6 #[.val (.ref t0)] [(.int (1 : Int32))])) _
    refine XS.ifYes X1.here hx rfl (pc0 := 6) (pc' := 15) rfl (hb hby d3_6) rfl ((if0 _ _).trans (feq (by decide : ¬ ((1 : Int32) = (0 : Int32)))).2) (by decide) (by decide) ?_
    show Steps p.tables e below (T1.setTop (mkF m 15 #[.val (.ref t0)] [])) _
    refine XS.aloadN X1.here hx rfl (hb hby d3_15) rfl rfl ?_
    show Steps p.tables e below (T1.setTop (mkF m 16 #[.val (.ref t0)] [(.ref t0)])) _
    refine st2 _ ?_
    show Steps p.tables e below (T2.setTop (mkF m 19 #[.val (.ref t0)] [(.double wr)])) _
    refine XS.aloadN X2.here hx rfl (hb hby d3_19) rfl rfl ?_
    show Steps p.tables e below (T2.setTop (mkF m 20 #[.val (.ref t0)] [(.ref t0), (.double wr)])) _
    refine st3 _ ?_
    show Steps p.tables e below (T3.setTop (mkF m 23 #[.val (.ref t0)] [(.double pw), (.double wr)])) _
    refine XS.ddivS X3.here hx rfl (hb hby d3_23) rfl nn23 (v := (FP.ddiv wr pw)) rfl ?_
    show Steps p.tables e below (T3.setTop (mkF m 24 #[.val (.ref t0)] [(.double (FP.ddiv wr pw))])) _
    exact retOut X3 hx Bd.returns rfl (Or.inr (Or.inr (Or.inl ⟨rfl, rfl, _, rfl⟩))) (hb hby d3_24) hr
  · show Q_rm3n Z t0 pw wr h0 n0 _ T3.heap _
    rw [e3]
    exact ⟨rfl, N0, rfl⟩
theorem pd_1 : parseMethodDescriptor "()V" = some ⟨[], none⟩ := by decide +kernel
theorem pn_com_example_arrivals_arrivals_core_SequenceStatisticsExpectedRatioPinLaw : plainName "com/example/arrivals/arrivals/core/SequenceStatisticsExpectedRatioPinLaw" = true := by first | (simp [plainName, overriddenIn]; done) | decide +kernel
theorem ef_0_IIIIII (m : MethodId) (x0 : Int32) (x1 : Int32) (x2 : Int32) (x3 : Int32) (x4 : Int32) (x5 : Int32) : entryFrame m #[(.int x0), (.int x1), (.int x2), (.int x3), (.int x4), (.int x5)] maxLocals = mkF m 0 #[.val (.int x0), .val (.int x1), .val (.int x2), .val (.int x3), .val (.int x4), .val (.int x5), .unset, .unset, .unset, .unset, .unset, .unset, .unset, .unset, .unset, .unset, .unset, .unset, .unset, .unset, .unset, .unset, .unset] [] := by first | (simp [entryFrame, mkF, argsToLocals, Value.category, maxLocals]; done) | rfl
def Q0 (n0 : Nat) (v : Option Value) (h : Heap) (L : List Loc) : Prop := v = some (.int (1 : Int32)) ∧ Fr n0 L
set_option maxRecDepth 65536 in
set_option maxHeartbeats 40000000 in
theorem rm0_oo (l : Launch) (Z : State) (a0 : Array Value) (hw : ∀ d ∈ tables_1, d.before a0 Z = true) (ws : List Jvm.Cond) (p0 : Int32) (p1 : Int32) (p2 : Int32) (p3 : Int32) (p4 : Int32) (p5 : Int32) (wa : Int64) (wb : Int64) (ra : Int64) (rb : Int64) (h0 : Heap) (n0 : Nat) (Z0 : n0 ≤ h0.size) (hv8 : (((p4 &&& (1023 : Int32)) + (1 : Int32)).toInt64) = wa) (hv19 : (((p5 &&& (1023 : Int32)) + (1 : Int32)).toInt64) = wb) (hc29 : (((p4.toUInt32 >>> ((10 : Int32) &&& 31).toUInt32).toInt32) &&& (3 : Int32)) = (0 : Int32)) (hc46 : (((p5.toUInt32 >>> ((10 : Int32) &&& 31).toUInt32).toInt32) &&& (3 : Int32)) = (0 : Int32)) (hv61 : ((p2 % (1024 : Int32)).toInt64) = ra) (hv69 : ((p3 % (1024 : Int32)).toInt64) = rb) (hd5_183 : (cmpValue (FP.dcmp (0 : UInt64) (0 : UInt64)) .l) = (0 : Int32)) (hd199 : (cmpValue (FP.dcmp (9221120237041090560 : UInt64) (9221120237041090560 : UInt64)) .l) = (-1 : Int32)) :
    MetFree l x (head1 (Jvm.Cond.code x code maxLocals ret :: ws) room_1) (fun a U => a = #[(.int p0), (.int p1), (.int p2), (.int p3), (.int p4), (.int p5)] ∧ Z.Warmed39 U.vm ∧ U.heap = h0) (fun _ _ _ _ _ => True) (fun _ U o U' => ∃ v L, o = .returned v ∧ Q0 n0 v U'.heap L ∧ FrameEnd U o U' L room_1.cells room_1.slots) := by
  refine MetFree.of_bodySF (plainFor_of_name pn_com_example_arrivals_arrivals_core_SequenceStatisticsExpectedRatioPinLaw) hisR ?_
  intro p e s m args below meth c s₁ Bd hml0 hP hK
  obtain ⟨rfl, hZ, hh⟩ := hP
  have hx := Bd.exec
  have hby := Bd.bytes
  have hml : c.maxLocals = 23 := hml0
  have hown : s.vm.findClass "com/example/arrivals/arrivals/core/SequenceStatisticsExpectedRatioPinLaw" = some m.cls := findClass_of_methodNamed Bd.named
  have hnm := (name_of_methodNamed Bd.named Bd.method).1
  have X0 : Stand p l e room_1 s m #[(.int p0), (.int p1), (.int p2), (.int p3), (.int p4), (.int p5)] below meth c s₁ [] 0 0 := Stand.of_body Bd
  have e0 : s₁.heap = h0 := by rw [← hh, Bd.state]; rfl
  have N0 := Fr.nil n0
  have pre0 : ∀ t, Steps p.tables e below (s₁.setTop (mkF m 0 #[.val (.int p0), .val (.int p1), .val (.int p2), .val (.int p3), .val (.int p4), .val (.int p5), .unset, .unset, .unset, .unset, .unset, .unset, .unset, .unset, .unset, .unset, .unset, .unset, .unset, .unset, .unset, .unset, .unset] [])) t → Steps p.tables e below (s₁.setTop (entryFrame m #[(.int p0), (.int p1), (.int p2), (.int p3), (.int p4), (.int p5)] maxLocals)) t := fun t k => castTop (ef_0_IIIIII m p0 p1 p2 p3 p4 p5) k
  obtain ⟨T1, h1, X1, e1, E1, A1, D1, -, st1⟩ := newO X0 hx hZ hown (hw _ (List.mem_of_getElem? (i := 0) rfl)) (hw _ (List.mem_of_getElem? (i := 1) rfl)) (hw _ (List.mem_of_getElem? (i := 2) rfl)) e0 (g := (mkF m 72 #[.val (.int p0), .val (.int p1), .val (.int p2), .val (.int p3), .val (.int p4), .val (.int p5), .val (.long wa), .second, .val (.long wb), .second, .val (.int (0 : Int32)), .val (.int (0 : Int32)), .val (.long ra), .second, .val (.long rb), .second, .unset, .unset, .unset, .unset, .unset, .unset, .unset] [])) rfl (hb hby at_72) (by decide) (by decide)
  obtain ⟨b1, g1⟩ : ∃ z, z = h0.size := ⟨_, rfl⟩
  rw [← g1] at A1 D1 st1
  have g_b1 : n0 ≤ b1 := Nat.le_trans Z0 (Nat.le_of_eq g1.symm)
  have sz_b1 : h0.size ≤ b1 := Nat.le_trans (Keep.refl h0 []).1 (Nat.le_of_eq g1.symm)
  have K1 : Keep h0 h1 [] := (Keep.refl h0 []).ext E1
  have Zs1 := Nat.le_trans Z0 E1.1
  have F1_positiveWeight : Fld Z h1 b1 "com/example/arrivals/arrivals/core/SequenceStatistics" "positiveWeight" "D" (.double (0 : UInt64)) := D1 (Or.inl (hw _ (List.mem_of_getElem? (i := 15) rfl))) (ty := .double) (by decide)
  have F1_count : Fld Z h1 b1 "com/example/arrivals/arrivals/core/SequenceStatistics" "count" "J" (.long (0 : Int64)) := D1 (Or.inl (hw _ (List.mem_of_getElem? (i := 28) rfl))) (ty := .long) (by decide)
  have F1_weight : Fld Z h1 b1 "com/example/arrivals/arrivals/core/SequenceStatistics" "weight" "D" (.double (0 : UInt64)) := D1 (Or.inl (hw _ (List.mem_of_getElem? (i := 35) rfl))) (ty := .double) (by decide)
  have F1_sumOnline : Fld Z h1 b1 "com/example/arrivals/arrivals/core/SequenceStatistics" "sumOnline" "D" (.double (0 : UInt64)) := D1 (Or.inl (hw _ (List.mem_of_getElem? (i := 37) rfl))) (ty := .double) (by decide)
  have F1_sumOptimum : Fld Z h1 b1 "com/example/arrivals/arrivals/core/SequenceStatistics" "sumOptimum" "D" (.double (0 : UInt64)) := D1 (Or.inl (hw _ (List.mem_of_getElem? (i := 39) rfl))) (ty := .double) (by decide)
  have F1_comomentOnline : Fld Z h1 b1 "com/example/arrivals/arrivals/core/SequenceStatistics" "comomentOnline" "D" (.double (0 : UInt64)) := D1 (Or.inl (hw _ (List.mem_of_getElem? (i := 41) rfl))) (ty := .double) (by decide)
  have F1_comomentOptimum : Fld Z h1 b1 "com/example/arrivals/arrivals/core/SequenceStatistics" "comomentOptimum" "D" (.double (0 : UInt64)) := D1 (Or.inl (hw _ (List.mem_of_getElem? (i := 43) rfl))) (ty := .double) (by decide)
  have F1_comomentBoth : Fld Z h1 b1 "com/example/arrivals/arrivals/core/SequenceStatistics" "comomentBoth" "D" (.double (0 : UInt64)) := D1 (Or.inl (hw _ (List.mem_of_getElem? (i := 45) rfl))) (ty := .double) (by decide)
  have F1_zeroWeight : Fld Z h1 b1 "com/example/arrivals/arrivals/core/SequenceStatistics" "zeroWeight" "D" (.double (0 : UInt64)) := D1 (Or.inl (hw _ (List.mem_of_getElem? (i := 47) rfl))) (ty := .double) (by decide)
  have F1_weightedRatios : Fld Z h1 b1 "com/example/arrivals/arrivals/core/SequenceStatistics" "weightedRatios" "D" (.double (0 : UInt64)) := D1 (Or.inl (hw _ (List.mem_of_getElem? (i := 49) rfl))) (ty := .double) (by decide)
  obtain ⟨_, _, ⟨T2, L2, k2, n2⟩, -, X2, ⟨Lc2, hQ2, l2, y2, z2⟩, st2⟩ := X1.specialBack hx (y := (⟨"com/example/arrivals/arrivals/core/SequenceStatistics", "<init>", "()V"⟩ : MethodName)) rfl hown (mvT hZ (hw _ (List.mem_of_getElem? (i := 3) rfl))) (mvT hZ (hw _ (List.mem_of_getElem? (i := 4) rfl))) (mvT hZ (hw _ (List.mem_of_getElem? (i := 5) rfl))) (by decide) (backOf (W := 1) (rm1 l Z a0 hw [] b1 h1 n0 Zs1 A1) hZ (hw _ (List.mem_of_getElem? (i := 5) rfl)) (hw _ (List.mem_of_getElem? (i := 2) rfl)) (by decide) (by decide)) (g := (mkF m 76 #[.val (.int p0), .val (.int p1), .val (.int p2), .val (.int p3), .val (.int p4), .val (.int p5), .val (.long wa), .second, .val (.long wb), .second, .val (.int (0 : Int32)), .val (.int (0 : Int32)), .val (.long ra), .second, .val (.long rb), .second, .unset, .unset, .unset, .unset, .unset, .unset, .unset] [(.ref b1), (.ref b1)])) rfl (by rw [hml]; rfl) (Steps.refl _) (a := b1) (argsL := []) (rest := [(.ref b1)]) (lenOf pd_1 rfl) rfl (by show 2 * 0 + _ ≤ _; exact Nat.le_of_eq rfl) (hb hby at_76) (fun _ _ => ⟨rfl, e1, (by decide : 1 + 0 ≤ _), (by decide : 10 + 0 ≤ _)⟩)
  dsimp only [Pt.U, Pt.locs, Pt.cells, Pt.slots] at X2 l2 y2 z2 st2 hQ2
  subst l2 y2 z2
  obtain ⟨rfl, N2q, eh2⟩ := hQ2
  have N2 := Fr.app N0 N2q
  have e2 : T2.heap = h1 := eh2
  obtain ⟨cq3, kq3, q3a, q3b, q3c⟩ := isOf hZ e2 A1
  obtain ⟨_, _, ⟨T3, L3, k3, n3⟩, -, X3, ⟨Lc3, hQ3, l3, y3, z3⟩, st3⟩ := X2.virtualBack hx (y := (⟨"com/example/arrivals/arrivals/core/SequenceStatistics", "expectedRatio", "()D"⟩ : MethodName)) (z := (⟨"com/example/arrivals/arrivals/core/SequenceStatistics", "expectedRatio", "()D"⟩ : MethodName)) hown (mvT hZ (hw _ (List.mem_of_getElem? (i := 9) rfl))) (mvT hZ (hw _ (List.mem_of_getElem? (i := 10) rfl))) (notFace_of_selects (args := #[]) (mvT hZ (hw _ (List.mem_of_getElem? (i := 12) rfl)))) (mvT hZ (hw _ (List.mem_of_getElem? (i := 12) rfl))) (mvT hZ (hw _ (List.mem_of_getElem? (i := 11) rfl))) (by decide) (backOf (W := 0) (rm3z l Z a0 hw [] b1 (0 : UInt64) (0 : UInt64) h1 n0 Zs1 F1_positiveWeight F1_weightedRatios hd5_183) hZ (hw _ (List.mem_of_getElem? (i := 13) rfl)) (hw _ (List.mem_of_getElem? (i := 2) rfl)) (by decide) (by decide)) q3a q3c (g := (mkF m 183 #[.val (.int p0), .val (.int p1), .val (.int p2), .val (.int p3), .val (.int p4), .val (.int p5), .val (.long wa), .second, .val (.long wb), .second, .val (.int (0 : Int32)), .val (.int (0 : Int32)), .val (.long ra), .second, .val (.long rb), .second, .val (.ref b1), .val (.long (0 : Int64)), .second, .val (.long (0 : Int64)), .second, .unset, .unset] [(.ref b1)])) rfl (by rw [hml]; rfl) (Steps.refl _) (argsL := []) (rest := []) (lenOf pd_0 rfl) rfl (by show 2 * 0 + _ ≤ _; exact Nat.le_of_eq rfl) (hb hby at_183) (fun _ _ => ⟨rfl, e2, (by decide : 1 + 0 ≤ _), (by decide : 10 + 0 ≤ _)⟩)
  dsimp only [Pt.U, Pt.locs, Pt.cells, Pt.slots] at X3 l3 y3 z3 st3 hQ3
  subst l3 y3 z3
  obtain ⟨rfl, N3q, eh3⟩ := hQ3
  have N3 := Fr.app N2 N3q
  have e3 : T3.heap = h1 := eh3
  obtain ⟨fs, hr, hrun, hended, hW, hsame⟩ := X3.leave (v := some (.int (1 : Int32))) (fun h => by rw [Bd.returns] at h; cases h)
  refine ⟨_, _, pre0 _ ?_, hrun, hended, _, _, rfl, ?_, ⟨_, rfl⟩, hW, hsame.mono (by decide) (by decide)⟩
  · show Steps p.tables e below (s₁.setTop (mkF m 0 #[.val (.int p0), .val (.int p1), .val (.int p2), .val (.int p3), .val (.int p4), .val (.int p5), .unset, .unset, .unset, .unset, .unset, .unset, .unset, .unset, .unset, .unset, .unset, .unset, .unset, .unset, .unset, .unset, .unset] [])) _
    refine XS.iload X0.here hx rfl (hb hby at_0) rfl ?_
    refine XS.sipush X0.here hx rfl (hb hby at_2) ?_
    refine XS.iand X0.here hx rfl (hb hby at_5) rfl ?_
    refine XS.iconst X0.here hx rfl (hb hby at_6) ?_
    refine XS.iadd X0.here hx rfl (hb hby at_7) rfl ?_
    show Steps p.tables e below (s₁.setTop (mkF m 8 #[.val (.int p0), .val (.int p1), .val (.int p2), .val (.int p3), .val (.int p4), .val (.int p5), .unset, .unset, .unset, .unset, .unset, .unset, .unset, .unset, .unset, .unset, .unset, .unset, .unset, .unset, .unset, .unset, .unset] [(.int ((p4 &&& (1023 : Int32)) + (1 : Int32)))])) _
    refine XS.i2l X0.here hx rfl (hb hby at_8) rfl ?_
    show Steps p.tables e below (s₁.setTop (mkF m 9 #[.val (.int p0), .val (.int p1), .val (.int p2), .val (.int p3), .val (.int p4), .val (.int p5), .unset, .unset, .unset, .unset, .unset, .unset, .unset, .unset, .unset, .unset, .unset, .unset, .unset, .unset, .unset, .unset, .unset] [(.long (((p4 &&& (1023 : Int32)) + (1 : Int32)).toInt64))])) _
    rw [hv8]
    show Steps p.tables e below (s₁.setTop (mkF m 9 #[.val (.int p0), .val (.int p1), .val (.int p2), .val (.int p3), .val (.int p4), .val (.int p5), .unset, .unset, .unset, .unset, .unset, .unset, .unset, .unset, .unset, .unset, .unset, .unset, .unset, .unset, .unset, .unset, .unset] [(.long wa)])) _
    refine XS.lstore X0.here hx rfl (hb hby at_9) rfl (l' := #[.val (.int p0), .val (.int p1), .val (.int p2), .val (.int p3), .val (.int p4), .val (.int p5), .val (.long wa), .second, .unset, .unset, .unset, .unset, .unset, .unset, .unset, .unset, .unset, .unset, .unset, .unset, .unset, .unset, .unset]) rfl ?_
    refine XS.iload X0.here hx rfl (hb hby at_11) rfl ?_
    refine XS.sipush X0.here hx rfl (hb hby at_13) ?_
    refine XS.iand X0.here hx rfl (hb hby at_16) rfl ?_
    show Steps p.tables e below (s₁.setTop (mkF m 17 #[.val (.int p0), .val (.int p1), .val (.int p2), .val (.int p3), .val (.int p4), .val (.int p5), .val (.long wa), .second, .unset, .unset, .unset, .unset, .unset, .unset, .unset, .unset, .unset, .unset, .unset, .unset, .unset, .unset, .unset] [(.int (p5 &&& (1023 : Int32)))])) _
    refine XS.iconst X0.here hx rfl (hb hby at_17) ?_
    refine XS.iadd X0.here hx rfl (hb hby at_18) rfl ?_
    refine XS.i2l X0.here hx rfl (hb hby at_19) rfl ?_
    show Steps p.tables e below (s₁.setTop (mkF m 20 #[.val (.int p0), .val (.int p1), .val (.int p2), .val (.int p3), .val (.int p4), .val (.int p5), .val (.long wa), .second, .unset, .unset, .unset, .unset, .unset, .unset, .unset, .unset, .unset, .unset, .unset, .unset, .unset, .unset, .unset] [(.long (((p5 &&& (1023 : Int32)) + (1 : Int32)).toInt64))])) _
    rw [hv19]
    show Steps p.tables e below (s₁.setTop (mkF m 20 #[.val (.int p0), .val (.int p1), .val (.int p2), .val (.int p3), .val (.int p4), .val (.int p5), .val (.long wa), .second, .unset, .unset, .unset, .unset, .unset, .unset, .unset, .unset, .unset, .unset, .unset, .unset, .unset, .unset, .unset] [(.long wb)])) _
    refine XS.lstore X0.here hx rfl (hb hby at_20) rfl (l' := #[.val (.int p0), .val (.int p1), .val (.int p2), .val (.int p3), .val (.int p4), .val (.int p5), .val (.long wa), .second, .val (.long wb), .second, .unset, .unset, .unset, .unset, .unset, .unset, .unset, .unset, .unset, .unset, .unset, .unset, .unset]) rfl ?_
    refine XS.iload X0.here hx rfl (hb hby at_22) rfl ?_
    show Steps p.tables e below (s₁.setTop (mkF m 24 #[.val (.int p0), .val (.int p1), .val (.int p2), .val (.int p3), .val (.int p4), .val (.int p5), .val (.long wa), .second, .val (.long wb), .second, .unset, .unset, .unset, .unset, .unset, .unset, .unset, .unset, .unset, .unset, .unset, .unset, .unset] [(.int p4)])) _
    refine XS.bipush X0.here hx rfl (hb hby at_24) ?_
    refine XS.iushr X0.here hx rfl (hb hby at_26) rfl ?_
    refine XS.iconst X0.here hx rfl (hb hby at_27) ?_
    refine XS.iand X0.here hx rfl (hb hby at_28) rfl ?_
    refine XS.ifYes X0.here hx rfl (pc0 := 29) (pc' := 36) rfl (hb hby at_29) rfl ((if0 _ _).trans (teq hc29).1) (by decide) (by decide) ?_
    refine XS.iconst X0.here hx rfl (hb hby at_36) ?_
    show Steps p.tables e below (s₁.setTop (mkF m 37 #[.val (.int p0), .val (.int p1), .val (.int p2), .val (.int p3), .val (.int p4), .val (.int p5), .val (.long wa), .second, .val (.long wb), .second, .unset, .unset, .unset, .unset, .unset, .unset, .unset, .unset, .unset, .unset, .unset, .unset, .unset] [(.int (0 : Int32))])) _
    refine XS.istore X0.here hx rfl (hb hby at_37) rfl (l' := #[.val (.int p0), .val (.int p1), .val (.int p2), .val (.int p3), .val (.int p4), .val (.int p5), .val (.long wa), .second, .val (.long wb), .second, .val (.int (0 : Int32)), .unset, .unset, .unset, .unset, .unset, .unset, .unset, .unset, .unset, .unset, .unset, .unset]) rfl ?_
    refine XS.iload X0.here hx rfl (hb hby at_39) rfl ?_
    refine XS.bipush X0.here hx rfl (hb hby at_41) ?_
    refine XS.iushr X0.here hx rfl (hb hby at_43) rfl ?_
    refine XS.iconst X0.here hx rfl (hb hby at_44) ?_
    refine XS.iand X0.here hx rfl (hb hby at_45) rfl ?_
    show Steps p.tables e below (s₁.setTop (mkF m 46 #[.val (.int p0), .val (.int p1), .val (.int p2), .val (.int p3), .val (.int p4), .val (.int p5), .val (.long wa), .second, .val (.long wb), .second, .val (.int (0 : Int32)), .unset, .unset, .unset, .unset, .unset, .unset, .unset, .unset, .unset, .unset, .unset, .unset] [(.int (((p5.toUInt32 >>> ((10 : Int32) &&& 31).toUInt32).toInt32) &&& (3 : Int32)))])) _
    refine XS.ifYes X0.here hx rfl (pc0 := 46) (pc' := 53) rfl (hb hby at_46) rfl ((if0 _ _).trans (teq hc46).1) (by decide) (by decide) ?_
    refine XS.iconst X0.here hx rfl (hb hby at_53) ?_
    refine XS.istore X0.here hx rfl (hb hby at_54) rfl (l' := #[.val (.int p0), .val (.int p1), .val (.int p2), .val (.int p3), .val (.int p4), .val (.int p5), .val (.long wa), .second, .val (.long wb), .second, .val (.int (0 : Int32)), .val (.int (0 : Int32)), .unset, .unset, .unset, .unset, .unset, .unset, .unset, .unset, .unset, .unset, .unset]) rfl ?_
    refine XS.iloadN X0.here hx rfl (hb hby at_56) rfl ?_
    refine XS.sipush X0.here hx rfl (hb hby at_57) ?_
    refine iremM (g := (mkF m 60 #[.val (.int p0), .val (.int p1), .val (.int p2), .val (.int p3), .val (.int p4), .val (.int p5), .val (.long wa), .second, .val (.long wb), .second, .val (.int (0 : Int32)), .val (.int (0 : Int32)), .unset, .unset, .unset, .unset, .unset, .unset, .unset, .unset, .unset, .unset, .unset] [(.int (1024 : Int32)), (.int p2)])) X0 hx rfl (hb hby at_60) rfl (by decide) ?_
    show Steps p.tables e below (s₁.setTop (mkF m 61 #[.val (.int p0), .val (.int p1), .val (.int p2), .val (.int p3), .val (.int p4), .val (.int p5), .val (.long wa), .second, .val (.long wb), .second, .val (.int (0 : Int32)), .val (.int (0 : Int32)), .unset, .unset, .unset, .unset, .unset, .unset, .unset, .unset, .unset, .unset, .unset] [(.int (p2 % (1024 : Int32)))])) _
    refine XS.i2l X0.here hx rfl (hb hby at_61) rfl ?_
    show Steps p.tables e below (s₁.setTop (mkF m 62 #[.val (.int p0), .val (.int p1), .val (.int p2), .val (.int p3), .val (.int p4), .val (.int p5), .val (.long wa), .second, .val (.long wb), .second, .val (.int (0 : Int32)), .val (.int (0 : Int32)), .unset, .unset, .unset, .unset, .unset, .unset, .unset, .unset, .unset, .unset, .unset] [(.long ((p2 % (1024 : Int32)).toInt64))])) _
    rw [hv61]
    show Steps p.tables e below (s₁.setTop (mkF m 62 #[.val (.int p0), .val (.int p1), .val (.int p2), .val (.int p3), .val (.int p4), .val (.int p5), .val (.long wa), .second, .val (.long wb), .second, .val (.int (0 : Int32)), .val (.int (0 : Int32)), .unset, .unset, .unset, .unset, .unset, .unset, .unset, .unset, .unset, .unset, .unset] [(.long ra)])) _
    refine XS.lstore X0.here hx rfl (hb hby at_62) rfl (l' := #[.val (.int p0), .val (.int p1), .val (.int p2), .val (.int p3), .val (.int p4), .val (.int p5), .val (.long wa), .second, .val (.long wb), .second, .val (.int (0 : Int32)), .val (.int (0 : Int32)), .val (.long ra), .second, .unset, .unset, .unset, .unset, .unset, .unset, .unset, .unset, .unset]) rfl ?_
    refine XS.iloadN X0.here hx rfl (hb hby at_64) rfl ?_
    refine XS.sipush X0.here hx rfl (hb hby at_65) ?_
    refine iremM (g := (mkF m 68 #[.val (.int p0), .val (.int p1), .val (.int p2), .val (.int p3), .val (.int p4), .val (.int p5), .val (.long wa), .second, .val (.long wb), .second, .val (.int (0 : Int32)), .val (.int (0 : Int32)), .val (.long ra), .second, .unset, .unset, .unset, .unset, .unset, .unset, .unset, .unset, .unset] [(.int (1024 : Int32)), (.int p3)])) X0 hx rfl (hb hby at_68) rfl (by decide) ?_
    show Steps p.tables e below (s₁.setTop (mkF m 69 #[.val (.int p0), .val (.int p1), .val (.int p2), .val (.int p3), .val (.int p4), .val (.int p5), .val (.long wa), .second, .val (.long wb), .second, .val (.int (0 : Int32)), .val (.int (0 : Int32)), .val (.long ra), .second, .unset, .unset, .unset, .unset, .unset, .unset, .unset, .unset, .unset] [(.int (p3 % (1024 : Int32)))])) _
    refine XS.i2l X0.here hx rfl (hb hby at_69) rfl ?_
    show Steps p.tables e below (s₁.setTop (mkF m 70 #[.val (.int p0), .val (.int p1), .val (.int p2), .val (.int p3), .val (.int p4), .val (.int p5), .val (.long wa), .second, .val (.long wb), .second, .val (.int (0 : Int32)), .val (.int (0 : Int32)), .val (.long ra), .second, .unset, .unset, .unset, .unset, .unset, .unset, .unset, .unset, .unset] [(.long ((p3 % (1024 : Int32)).toInt64))])) _
    rw [hv69]
    show Steps p.tables e below (s₁.setTop (mkF m 70 #[.val (.int p0), .val (.int p1), .val (.int p2), .val (.int p3), .val (.int p4), .val (.int p5), .val (.long wa), .second, .val (.long wb), .second, .val (.int (0 : Int32)), .val (.int (0 : Int32)), .val (.long ra), .second, .unset, .unset, .unset, .unset, .unset, .unset, .unset, .unset, .unset] [(.long rb)])) _
    refine XS.lstore X0.here hx rfl (hb hby at_70) rfl (l' := #[.val (.int p0), .val (.int p1), .val (.int p2), .val (.int p3), .val (.int p4), .val (.int p5), .val (.long wa), .second, .val (.long wb), .second, .val (.int (0 : Int32)), .val (.int (0 : Int32)), .val (.long ra), .second, .val (.long rb), .second, .unset, .unset, .unset, .unset, .unset, .unset, .unset]) rfl ?_
    refine st1 _ ?_
    show Steps p.tables e below (T1.setTop (mkF m 75 #[.val (.int p0), .val (.int p1), .val (.int p2), .val (.int p3), .val (.int p4), .val (.int p5), .val (.long wa), .second, .val (.long wb), .second, .val (.int (0 : Int32)), .val (.int (0 : Int32)), .val (.long ra), .second, .val (.long rb), .second, .unset, .unset, .unset, .unset, .unset, .unset, .unset] [(.ref b1)])) _
    refine XS.dup X1.here hx rfl (hb hby at_75) rfl rfl ?_
    refine st2.trans ?_
    show Steps p.tables e below (T2.setTop (mkF m 79 #[.val (.int p0), .val (.int p1), .val (.int p2), .val (.int p3), .val (.int p4), .val (.int p5), .val (.long wa), .second, .val (.long wb), .second, .val (.int (0 : Int32)), .val (.int (0 : Int32)), .val (.long ra), .second, .val (.long rb), .second, .unset, .unset, .unset, .unset, .unset, .unset, .unset] [(.ref b1)])) _
    refine XS.astore X2.here hx rfl (hb hby at_79) rfl rfl (l' := #[.val (.int p0), .val (.int p1), .val (.int p2), .val (.int p3), .val (.int p4), .val (.int p5), .val (.long wa), .second, .val (.long wb), .second, .val (.int (0 : Int32)), .val (.int (0 : Int32)), .val (.long ra), .second, .val (.long rb), .second, .val (.ref b1), .unset, .unset, .unset, .unset, .unset, .unset]) rfl ?_
    refine XS.iload X2.here hx rfl (hb hby at_81) rfl ?_
    refine XS.ifYes X2.here hx rfl (pc0 := 83) (pc' := 102) rfl (hb hby at_83) rfl ((if0 _ _).trans (teq (by decide : (0 : Int32) = (0 : Int32))).1) (by decide) (by decide) ?_
    refine XS.iload X2.here hx rfl (hb hby at_102) rfl ?_
    refine XS.ifYes X2.here hx rfl (pc0 := 104) (pc' := 123) rfl (hb hby at_104) rfl ((if0 _ _).trans (teq (by decide : (0 : Int32) = (0 : Int32))).1) (by decide) (by decide) ?_
    refine XS.lconst X2.here hx rfl (hb hby at_123) ?_
    show Steps p.tables e below (T2.setTop (mkF m 124 #[.val (.int p0), .val (.int p1), .val (.int p2), .val (.int p3), .val (.int p4), .val (.int p5), .val (.long wa), .second, .val (.long wb), .second, .val (.int (0 : Int32)), .val (.int (0 : Int32)), .val (.long ra), .second, .val (.long rb), .second, .val (.ref b1), .unset, .unset, .unset, .unset, .unset, .unset] [(.long (0 : Int64))])) _
    refine XS.lstore X2.here hx rfl (hb hby at_124) rfl (l' := #[.val (.int p0), .val (.int p1), .val (.int p2), .val (.int p3), .val (.int p4), .val (.int p5), .val (.long wa), .second, .val (.long wb), .second, .val (.int (0 : Int32)), .val (.int (0 : Int32)), .val (.long ra), .second, .val (.long rb), .second, .val (.ref b1), .val (.long (0 : Int64)), .second, .unset, .unset, .unset, .unset]) rfl ?_
    refine XS.lconst X2.here hx rfl (hb hby at_126) ?_
    refine XS.lstore X2.here hx rfl (hb hby at_127) rfl (l' := #[.val (.int p0), .val (.int p1), .val (.int p2), .val (.int p3), .val (.int p4), .val (.int p5), .val (.long wa), .second, .val (.long wb), .second, .val (.int (0 : Int32)), .val (.int (0 : Int32)), .val (.long ra), .second, .val (.long rb), .second, .val (.ref b1), .val (.long (0 : Int64)), .second, .val (.long (0 : Int64)), .second, .unset, .unset]) rfl ?_
    refine XS.iload X2.here hx rfl (hb hby at_129) rfl ?_
    refine XS.ifYes X2.here hx rfl (pc0 := 131) (pc' := 155) rfl (hb hby at_131) rfl ((if0 _ _).trans (teq (by decide : (0 : Int32) = (0 : Int32))).1) (by decide) (by decide) ?_
    refine XS.iload X2.here hx rfl (hb hby at_155) rfl ?_
    show Steps p.tables e below (T2.setTop (mkF m 157 #[.val (.int p0), .val (.int p1), .val (.int p2), .val (.int p3), .val (.int p4), .val (.int p5), .val (.long wa), .second, .val (.long wb), .second, .val (.int (0 : Int32)), .val (.int (0 : Int32)), .val (.long ra), .second, .val (.long rb), .second, .val (.ref b1), .val (.long (0 : Int64)), .second, .val (.long (0 : Int64)), .second, .unset, .unset] [(.int (0 : Int32))])) _
    refine XS.ifYes X2.here hx rfl (pc0 := 157) (pc' := 181) rfl (hb hby at_157) rfl ((if0 _ _).trans (teq (by decide : (0 : Int32) = (0 : Int32))).1) (by decide) (by decide) ?_
    refine XS.aload X2.here hx rfl (hb hby at_181) rfl rfl ?_
    refine st3.trans ?_
    show Steps p.tables e below (T3.setTop (mkF m 186 #[.val (.int p0), .val (.int p1), .val (.int p2), .val (.int p3), .val (.int p4), .val (.int p5), .val (.long wa), .second, .val (.long wb), .second, .val (.int (0 : Int32)), .val (.int (0 : Int32)), .val (.long ra), .second, .val (.long rb), .second, .val (.ref b1), .val (.long (0 : Int64)), .second, .val (.long (0 : Int64)), .second, .unset, .unset] [(.double (9221120237041090560 : UInt64))])) _
    refine XS.dstore X3.here hx rfl (hb hby at_186) rfl (l' := #[.val (.int p0), .val (.int p1), .val (.int p2), .val (.int p3), .val (.int p4), .val (.int p5), .val (.long wa), .second, .val (.long wb), .second, .val (.int (0 : Int32)), .val (.int (0 : Int32)), .val (.long ra), .second, .val (.long rb), .second, .val (.ref b1), .val (.long (0 : Int64)), .second, .val (.long (0 : Int64)), .second, .val (.double (9221120237041090560 : UInt64)), .second]) rfl ?_
    refine XS.lload X3.here hx rfl (hb hby at_188) rfl ?_
    refine XS.lconst X3.here hx rfl (hb hby at_190) ?_
    show Steps p.tables e below (T3.setTop (mkF m 191 #[.val (.int p0), .val (.int p1), .val (.int p2), .val (.int p3), .val (.int p4), .val (.int p5), .val (.long wa), .second, .val (.long wb), .second, .val (.int (0 : Int32)), .val (.int (0 : Int32)), .val (.long ra), .second, .val (.long rb), .second, .val (.ref b1), .val (.long (0 : Int64)), .second, .val (.long (0 : Int64)), .second, .val (.double (9221120237041090560 : UInt64)), .second] [(.long (0 : Int64)), (.long (0 : Int64))])) _
    refine XS.lcmp X3.here hx rfl (hb hby at_191) rfl ?_
    show Steps p.tables e below (T3.setTop (mkF m 192 #[.val (.int p0), .val (.int p1), .val (.int p2), .val (.int p3), .val (.int p4), .val (.int p5), .val (.long wa), .second, .val (.long wb), .second, .val (.int (0 : Int32)), .val (.int (0 : Int32)), .val (.long ra), .second, .val (.long rb), .second, .val (.ref b1), .val (.long (0 : Int64)), .second, .val (.long (0 : Int64)), .second, .val (.double (9221120237041090560 : UInt64)), .second] [(.int (lcmpW (0 : Int64) (0 : Int64)))])) _
    rw [show (lcmpW (0 : Int64) (0 : Int64)) = (0 : Int32) by decide]
    show Steps p.tables e below (T3.setTop (mkF m 192 #[.val (.int p0), .val (.int p1), .val (.int p2), .val (.int p3), .val (.int p4), .val (.int p5), .val (.long wa), .second, .val (.long wb), .second, .val (.int (0 : Int32)), .val (.int (0 : Int32)), .val (.long ra), .second, .val (.long rb), .second, .val (.ref b1), .val (.long (0 : Int64)), .second, .val (.long (0 : Int64)), .second, .val (.double (9221120237041090560 : UInt64)), .second] [(.int (0 : Int32))])) _
    refine XS.ifNo X3.here hx rfl (hb hby at_192) rfl ((if0 _ _).trans (teq (by decide : (0 : Int32) = (0 : Int32))).2) ?_
    refine XS.dload X3.here hx rfl (hb hby at_195) rfl ?_
    refine XS.dload X3.here hx rfl (hb hby at_197) rfl ?_
    refine XS.dcmpS X3.here hx rfl (hb hby at_199) rfl (v := (-1 : Int32)) hd199 ?_
    show Steps p.tables e below (T3.setTop (mkF m 200 #[.val (.int p0), .val (.int p1), .val (.int p2), .val (.int p3), .val (.int p4), .val (.int p5), .val (.long wa), .second, .val (.long wb), .second, .val (.int (0 : Int32)), .val (.int (0 : Int32)), .val (.long ra), .second, .val (.long rb), .second, .val (.ref b1), .val (.long (0 : Int64)), .second, .val (.long (0 : Int64)), .second, .val (.double (9221120237041090560 : UInt64)), .second] [(.int (-1 : Int32))])) _
    refine XS.ifNo X3.here hx rfl (hb hby at_200) rfl ((if0 _ _).trans (feq (by decide : ¬ ((-1 : Int32) = (0 : Int32)))).1) ?_
    refine XS.iconst X3.here hx rfl (hb hby at_203) ?_
    refine XS.goto X3.here hx rfl (pc0 := 204) (pc' := 208) rfl (hb hby at_204) (by decide) (by decide) ?_
    exact retN X3 hx (t := .boolean) Bd.returns (by simp) (hb hby at_208) hr
  · show Q0 n0 _ T3.heap _
    rw [e3]
    exact ⟨rfl, N3⟩
theorem pd_2 : parseMethodDescriptor "(DDJ)V" = some ⟨[.double, .double, .long], none⟩ := by decide +kernel
set_option maxRecDepth 65536 in
set_option maxHeartbeats 40000000 in
theorem rm0_op (l : Launch) (Z : State) (a0 : Array Value) (hw : ∀ d ∈ tables_1, d.before a0 Z = true) (ws : List Jvm.Cond) (p0 : Int32) (p1 : Int32) (p2 : Int32) (p3 : Int32) (p4 : Int32) (p5 : Int32) (ob1 : UInt64) (pb1 : UInt64) (w1 : UInt64) (so1 : UInt64) (sp1 : UInt64) (oa1 : UInt64) (pa1 : UInt64) (ma1 : UInt64) (mb1 : UInt64) (mc1 : UInt64) (pw1 : UInt64) (wr1 : UInt64) (wa : Int64) (wb : Int64) (ra : Int64) (rb : Int64) (xb : Int64) (pB : Int64) (nB : Int64) (h0 : Heap) (n0 : Nat) (Z0 : n0 ≤ h0.size) (hv8 : (((p4 &&& (1023 : Int32)) + (1 : Int32)).toInt64) = wa) (hv19 : (((p5 &&& (1023 : Int32)) + (1 : Int32)).toInt64) = wb) (hc29 : (((p4.toUInt32 >>> ((10 : Int32) &&& 31).toUInt32).toInt32) &&& (3 : Int32)) = (0 : Int32)) (hc46 : ¬ ((((p5.toUInt32 >>> ((10 : Int32) &&& 31).toUInt32).toInt32) &&& (3 : Int32)) = (0 : Int32))) (hv61 : ((p2 % (1024 : Int32)).toInt64) = ra) (hv69 : ((p3 % (1024 : Int32)).toInt64) = rb) (hv116 : (rb * (p1.toInt64)) = xb) (nn5_120 : Jvm.Free.Fl.NoNaN64 (FP.dsub (FP.l2d xb) (0 : UInt64))) (hq5_120 : (FP.dsub (FP.l2d xb) (0 : UInt64)) = ob1) (nn15_120 : Jvm.Free.Fl.NoNaN64 (FP.dsub (FP.l2d (p1.toInt64)) (0 : UInt64))) (hq15_120 : (FP.dsub (FP.l2d (p1.toInt64)) (0 : UInt64)) = pb1) (nn34_120 : Jvm.Free.Fl.NoNaN64 (FP.dadd (0 : UInt64) (FP.l2d wb))) (hq34_120 : (FP.dadd (0 : UInt64) (FP.l2d wb)) = w1) (nn45_120 : Jvm.Free.Fl.NoNaN64 (FP.dmul (FP.l2d wb) (FP.l2d xb))) (nn46_120 : Jvm.Free.Fl.NoNaN64 (FP.dadd (0 : UInt64) (FP.dmul (FP.l2d wb) (FP.l2d xb)))) (hq46_120 : (FP.dadd (0 : UInt64) (FP.dmul (FP.l2d wb) (FP.l2d xb))) = so1) (nn59_120 : Jvm.Free.Fl.NoNaN64 (FP.dmul (FP.l2d wb) (FP.l2d (p1.toInt64)))) (nn60_120 : Jvm.Free.Fl.NoNaN64 (FP.dadd (0 : UInt64) (FP.dmul (FP.l2d wb) (FP.l2d (p1.toInt64))))) (hq60_120 : (FP.dadd (0 : UInt64) (FP.dmul (FP.l2d wb) (FP.l2d (p1.toInt64)))) = sp1) (nn21_66_120 : Jvm.Free.Fl.NoNaN64 (FP.ddiv so1 w1)) (nn69_120 : Jvm.Free.Fl.NoNaN64 (FP.dsub (FP.l2d xb) (FP.ddiv so1 w1))) (hq69_120 : (FP.dsub (FP.l2d xb) (FP.ddiv so1 w1)) = oa1) (nn21_76_120 : Jvm.Free.Fl.NoNaN64 (FP.ddiv sp1 w1)) (nn79_120 : Jvm.Free.Fl.NoNaN64 (FP.dsub (FP.l2d (p1.toInt64)) (FP.ddiv sp1 w1))) (hq79_120 : (FP.dsub (FP.l2d (p1.toInt64)) (FP.ddiv sp1 w1)) = pa1) (nn90_120 : Jvm.Free.Fl.NoNaN64 (FP.dmul (FP.l2d wb) ob1)) (nn93_120 : Jvm.Free.Fl.NoNaN64 (FP.dmul (FP.dmul (FP.l2d wb) ob1) oa1)) (nn94_120 : Jvm.Free.Fl.NoNaN64 (FP.dadd (0 : UInt64) (FP.dmul (FP.dmul (FP.l2d wb) ob1) oa1))) (hq94_120 : (FP.dadd (0 : UInt64) (FP.dmul (FP.dmul (FP.l2d wb) ob1) oa1)) = ma1) (nn106_120 : Jvm.Free.Fl.NoNaN64 (FP.dmul (FP.l2d wb) pb1)) (nn109_120 : Jvm.Free.Fl.NoNaN64 (FP.dmul (FP.dmul (FP.l2d wb) pb1) pa1)) (nn110_120 : Jvm.Free.Fl.NoNaN64 (FP.dadd (0 : UInt64) (FP.dmul (FP.dmul (FP.l2d wb) pb1) pa1))) (hq110_120 : (FP.dadd (0 : UInt64) (FP.dmul (FP.dmul (FP.l2d wb) pb1) pa1)) = mb1) (nn122_120 : Jvm.Free.Fl.NoNaN64 (FP.dmul (FP.l2d wb) ob1)) (nn125_120 : Jvm.Free.Fl.NoNaN64 (FP.dmul (FP.dmul (FP.l2d wb) ob1) pa1)) (nn126_120 : Jvm.Free.Fl.NoNaN64 (FP.dadd (0 : UInt64) (FP.dmul (FP.dmul (FP.l2d wb) ob1) pa1))) (hq126_120 : (FP.dadd (0 : UInt64) (FP.dmul (FP.dmul (FP.l2d wb) ob1) pa1)) = mc1) (hc134_120 : (0 : Int32) < (lcmpW (p1.toInt64) (0 : Int64))) (nn143_120 : Jvm.Free.Fl.NoNaN64 (FP.dadd (0 : UInt64) (FP.l2d wb))) (hq143_120 : (FP.dadd (0 : UInt64) (FP.l2d wb)) = pw1) (nn157_120 : Jvm.Free.Fl.NoNaN64 (FP.ddiv (FP.l2d xb) (FP.l2d (p1.toInt64)))) (nn158_120 : Jvm.Free.Fl.NoNaN64 (FP.dmul (FP.l2d wb) (FP.ddiv (FP.l2d xb) (FP.l2d (p1.toInt64))))) (nn159_120 : Jvm.Free.Fl.NoNaN64 (FP.dadd (0 : UInt64) (FP.dmul (FP.l2d wb) (FP.ddiv (FP.l2d xb) (FP.l2d (p1.toInt64)))))) (hq159_120 : (FP.dadd (0 : UInt64) (FP.dmul (FP.l2d wb) (FP.ddiv (FP.l2d xb) (FP.l2d (p1.toInt64))))) = wr1) (hc161 : (0 : Int32) < p1) (hv168 : ((0 : Int64) + wb) = pB) (hv178 : ((0 : Int64) + (wb * rb)) = nB) (hd5_183 : (cmpValue (FP.dcmp pw1 (0 : UInt64)) .l) = (1 : Int32)) (nn23_183 : Jvm.Free.Fl.NoNaN64 (FP.ddiv wr1 pw1)) (hc192 : ¬ ((lcmpW pB (0 : Int64)) = (0 : Int32))) (nn217 : Jvm.Free.Fl.NoNaN64 (FP.ddiv (FP.l2d nB) (FP.l2d pB))) (hd218 : (cmpValue (FP.dcmp (FP.ddiv wr1 pw1) (FP.ddiv (FP.l2d nB) (FP.l2d pB))) .l) = (0 : Int32)) :
    MetFree l x (head1 (Jvm.Cond.code x code maxLocals ret :: ws) room_1) (fun a U => a = #[(.int p0), (.int p1), (.int p2), (.int p3), (.int p4), (.int p5)] ∧ Z.Warmed39 U.vm ∧ U.heap = h0) (fun _ _ _ _ _ => True) (fun _ U o U' => ∃ v L, o = .returned v ∧ Q0 n0 v U'.heap L ∧ FrameEnd U o U' L room_1.cells room_1.slots) := by
  refine MetFree.of_bodySF (plainFor_of_name pn_com_example_arrivals_arrivals_core_SequenceStatisticsExpectedRatioPinLaw) hisR ?_
  intro p e s m args below meth c s₁ Bd hml0 hP hK
  obtain ⟨rfl, hZ, hh⟩ := hP
  have hx := Bd.exec
  have hby := Bd.bytes
  have hml : c.maxLocals = 23 := hml0
  have hown : s.vm.findClass "com/example/arrivals/arrivals/core/SequenceStatisticsExpectedRatioPinLaw" = some m.cls := findClass_of_methodNamed Bd.named
  have hnm := (name_of_methodNamed Bd.named Bd.method).1
  have X0 : Stand p l e room_1 s m #[(.int p0), (.int p1), (.int p2), (.int p3), (.int p4), (.int p5)] below meth c s₁ [] 0 0 := Stand.of_body Bd
  have e0 : s₁.heap = h0 := by rw [← hh, Bd.state]; rfl
  have N0 := Fr.nil n0
  have pre0 : ∀ t, Steps p.tables e below (s₁.setTop (mkF m 0 #[.val (.int p0), .val (.int p1), .val (.int p2), .val (.int p3), .val (.int p4), .val (.int p5), .unset, .unset, .unset, .unset, .unset, .unset, .unset, .unset, .unset, .unset, .unset, .unset, .unset, .unset, .unset, .unset, .unset] [])) t → Steps p.tables e below (s₁.setTop (entryFrame m #[(.int p0), (.int p1), (.int p2), (.int p3), (.int p4), (.int p5)] maxLocals)) t := fun t k => castTop (ef_0_IIIIII m p0 p1 p2 p3 p4 p5) k
  obtain ⟨T1, h1, X1, e1, E1, A1, D1, -, st1⟩ := newO X0 hx hZ hown (hw _ (List.mem_of_getElem? (i := 0) rfl)) (hw _ (List.mem_of_getElem? (i := 1) rfl)) (hw _ (List.mem_of_getElem? (i := 2) rfl)) e0 (g := (mkF m 72 #[.val (.int p0), .val (.int p1), .val (.int p2), .val (.int p3), .val (.int p4), .val (.int p5), .val (.long wa), .second, .val (.long wb), .second, .val (.int (0 : Int32)), .val (.int (1 : Int32)), .val (.long ra), .second, .val (.long rb), .second, .unset, .unset, .unset, .unset, .unset, .unset, .unset] [])) rfl (hb hby at_72) (by decide) (by decide)
  obtain ⟨b1, g1⟩ : ∃ z, z = h0.size := ⟨_, rfl⟩
  rw [← g1] at A1 D1 st1
  have g_b1 : n0 ≤ b1 := Nat.le_trans Z0 (Nat.le_of_eq g1.symm)
  have sz_b1 : h0.size ≤ b1 := Nat.le_trans (Keep.refl h0 []).1 (Nat.le_of_eq g1.symm)
  have K1 : Keep h0 h1 [] := (Keep.refl h0 []).ext E1
  have Zs1 := Nat.le_trans Z0 E1.1
  have F1_positiveWeight : Fld Z h1 b1 "com/example/arrivals/arrivals/core/SequenceStatistics" "positiveWeight" "D" (.double (0 : UInt64)) := D1 (Or.inl (hw _ (List.mem_of_getElem? (i := 15) rfl))) (ty := .double) (by decide)
  have F1_count : Fld Z h1 b1 "com/example/arrivals/arrivals/core/SequenceStatistics" "count" "J" (.long (0 : Int64)) := D1 (Or.inl (hw _ (List.mem_of_getElem? (i := 28) rfl))) (ty := .long) (by decide)
  have F1_weight : Fld Z h1 b1 "com/example/arrivals/arrivals/core/SequenceStatistics" "weight" "D" (.double (0 : UInt64)) := D1 (Or.inl (hw _ (List.mem_of_getElem? (i := 35) rfl))) (ty := .double) (by decide)
  have F1_sumOnline : Fld Z h1 b1 "com/example/arrivals/arrivals/core/SequenceStatistics" "sumOnline" "D" (.double (0 : UInt64)) := D1 (Or.inl (hw _ (List.mem_of_getElem? (i := 37) rfl))) (ty := .double) (by decide)
  have F1_sumOptimum : Fld Z h1 b1 "com/example/arrivals/arrivals/core/SequenceStatistics" "sumOptimum" "D" (.double (0 : UInt64)) := D1 (Or.inl (hw _ (List.mem_of_getElem? (i := 39) rfl))) (ty := .double) (by decide)
  have F1_comomentOnline : Fld Z h1 b1 "com/example/arrivals/arrivals/core/SequenceStatistics" "comomentOnline" "D" (.double (0 : UInt64)) := D1 (Or.inl (hw _ (List.mem_of_getElem? (i := 41) rfl))) (ty := .double) (by decide)
  have F1_comomentOptimum : Fld Z h1 b1 "com/example/arrivals/arrivals/core/SequenceStatistics" "comomentOptimum" "D" (.double (0 : UInt64)) := D1 (Or.inl (hw _ (List.mem_of_getElem? (i := 43) rfl))) (ty := .double) (by decide)
  have F1_comomentBoth : Fld Z h1 b1 "com/example/arrivals/arrivals/core/SequenceStatistics" "comomentBoth" "D" (.double (0 : UInt64)) := D1 (Or.inl (hw _ (List.mem_of_getElem? (i := 45) rfl))) (ty := .double) (by decide)
  have F1_zeroWeight : Fld Z h1 b1 "com/example/arrivals/arrivals/core/SequenceStatistics" "zeroWeight" "D" (.double (0 : UInt64)) := D1 (Or.inl (hw _ (List.mem_of_getElem? (i := 47) rfl))) (ty := .double) (by decide)
  have F1_weightedRatios : Fld Z h1 b1 "com/example/arrivals/arrivals/core/SequenceStatistics" "weightedRatios" "D" (.double (0 : UInt64)) := D1 (Or.inl (hw _ (List.mem_of_getElem? (i := 49) rfl))) (ty := .double) (by decide)
  obtain ⟨_, _, ⟨T2, L2, k2, n2⟩, -, X2, ⟨Lc2, hQ2, l2, y2, z2⟩, st2⟩ := X1.specialBack hx (y := (⟨"com/example/arrivals/arrivals/core/SequenceStatistics", "<init>", "()V"⟩ : MethodName)) rfl hown (mvT hZ (hw _ (List.mem_of_getElem? (i := 3) rfl))) (mvT hZ (hw _ (List.mem_of_getElem? (i := 4) rfl))) (mvT hZ (hw _ (List.mem_of_getElem? (i := 5) rfl))) (by decide) (backOf (W := 1) (rm1 l Z a0 hw [] b1 h1 n0 Zs1 A1) hZ (hw _ (List.mem_of_getElem? (i := 5) rfl)) (hw _ (List.mem_of_getElem? (i := 2) rfl)) (by decide) (by decide)) (g := (mkF m 76 #[.val (.int p0), .val (.int p1), .val (.int p2), .val (.int p3), .val (.int p4), .val (.int p5), .val (.long wa), .second, .val (.long wb), .second, .val (.int (0 : Int32)), .val (.int (1 : Int32)), .val (.long ra), .second, .val (.long rb), .second, .unset, .unset, .unset, .unset, .unset, .unset, .unset] [(.ref b1), (.ref b1)])) rfl (by rw [hml]; rfl) (Steps.refl _) (a := b1) (argsL := []) (rest := [(.ref b1)]) (lenOf pd_1 rfl) rfl (by show 2 * 0 + _ ≤ _; exact Nat.le_of_eq rfl) (hb hby at_76) (fun _ _ => ⟨rfl, e1, (by decide : 1 + 0 ≤ _), (by decide : 10 + 0 ≤ _)⟩)
  dsimp only [Pt.U, Pt.locs, Pt.cells, Pt.slots] at X2 l2 y2 z2 st2 hQ2
  subst l2 y2 z2
  obtain ⟨rfl, N2q, eh2⟩ := hQ2
  have N2 := Fr.app N0 N2q
  have e2 : T2.heap = h1 := eh2
  obtain ⟨cq3, kq3, q3a, q3b, q3c⟩ := isOf hZ e2 A1
  obtain ⟨_, _, ⟨T3, L3, k3, n3⟩, -, X3, ⟨Lc3, hQ3, l3, y3, z3⟩, st3⟩ := X2.virtualBack hx (y := (⟨"com/example/arrivals/arrivals/core/SequenceStatistics", "add", "(DDJ)V"⟩ : MethodName)) (z := (⟨"com/example/arrivals/arrivals/core/SequenceStatistics", "add", "(DDJ)V"⟩ : MethodName)) hown (mvT hZ (hw _ (List.mem_of_getElem? (i := 17) rfl))) (mvT hZ (hw _ (List.mem_of_getElem? (i := 18) rfl))) (notFace_of_selects (args := #[]) (mvT hZ (hw _ (List.mem_of_getElem? (i := 20) rfl)))) (mvT hZ (hw _ (List.mem_of_getElem? (i := 20) rfl))) (mvT hZ (hw _ (List.mem_of_getElem? (i := 19) rfl))) (by decide) (backOf (W := 0) (rm4_0p l Z a0 hw [] b1 (FP.l2d wb) (FP.l2d xb) (p1.toInt64) ob1 pb1 w1 so1 sp1 oa1 pa1 ma1 mb1 mc1 pw1 wr1 h1 n0 Zs1 A1 g_b1 F1_count F1_weight F1_sumOnline F1_sumOptimum F1_comomentOnline F1_comomentOptimum F1_comomentBoth F1_positiveWeight F1_weightedRatios F1_zeroWeight nn5_120 hq5_120 nn15_120 hq15_120 nn34_120 hq34_120 nn45_120 nn46_120 hq46_120 nn59_120 nn60_120 hq60_120 nn21_66_120 nn69_120 hq69_120 nn21_76_120 nn79_120 hq79_120 nn90_120 nn93_120 nn94_120 hq94_120 nn106_120 nn109_120 nn110_120 hq110_120 nn122_120 nn125_120 nn126_120 hq126_120 hc134_120 nn143_120 hq143_120 nn157_120 nn158_120 nn159_120 hq159_120) hZ (hw _ (List.mem_of_getElem? (i := 21) rfl)) (hw _ (List.mem_of_getElem? (i := 2) rfl)) (by decide) (by decide)) q3a q3c (g := (mkF m 120 #[.val (.int p0), .val (.int p1), .val (.int p2), .val (.int p3), .val (.int p4), .val (.int p5), .val (.long wa), .second, .val (.long wb), .second, .val (.int (0 : Int32)), .val (.int (1 : Int32)), .val (.long ra), .second, .val (.long rb), .second, .val (.ref b1), .unset, .unset, .unset, .unset, .unset, .unset] [(.long (p1.toInt64)), (.double (FP.l2d xb)), (.double (FP.l2d wb)), (.ref b1)])) rfl (by rw [hml]; rfl) (Steps.refl _) (argsL := [(.double (FP.l2d wb)), (.double (FP.l2d xb)), (.long (p1.toInt64))]) (rest := []) (lenOf pd_2 rfl) rfl (by show 2 * 0 + _ ≤ _; exact Nat.le_of_eq rfl) (hb hby at_120) (fun _ _ => ⟨rfl, e2, (by decide : 1 + 0 ≤ _), (by decide : 10 + 0 ≤ _)⟩)
  dsimp only [Pt.U, Pt.locs, Pt.cells, Pt.slots] at X3 l3 y3 z3 st3 hQ3
  subst l3 y3 z3
  obtain ⟨rfl, N3q, K3q, f4, f5, f6, f7, f8, f9, f10, f11, f12, f13, f14⟩ := hQ3
  have N3 := Fr.app N2 N3q
  have f15 := A1.keep K3q
  have K3 : Keep h0 T3.heap [] := K1.trans K3q (own_allS (Or.inr sz_b1) own_all0)
  have Zs3 := Nat.le_trans Zs1 K3q.1
  obtain ⟨cq16, kq16, q16a, q16b, q16c⟩ := isOf hZ rfl f4
  obtain ⟨_, _, ⟨T16, L16, k16, n16⟩, -, X16, ⟨Lc16, hQ16, l16, y16, z16⟩, st16⟩ := X3.virtualBack hx (y := (⟨"com/example/arrivals/arrivals/core/SequenceStatistics", "expectedRatio", "()D"⟩ : MethodName)) (z := (⟨"com/example/arrivals/arrivals/core/SequenceStatistics", "expectedRatio", "()D"⟩ : MethodName)) hown (mvT hZ (hw _ (List.mem_of_getElem? (i := 9) rfl))) (mvT hZ (hw _ (List.mem_of_getElem? (i := 10) rfl))) (notFace_of_selects (args := #[]) (mvT hZ (hw _ (List.mem_of_getElem? (i := 12) rfl)))) (mvT hZ (hw _ (List.mem_of_getElem? (i := 12) rfl))) (mvT hZ (hw _ (List.mem_of_getElem? (i := 11) rfl))) (by decide) (backOf (W := 0) (rm3n l Z a0 hw [] b1 pw1 wr1 T3.heap n0 Zs3 f12 f13 hd5_183 nn23_183) hZ (hw _ (List.mem_of_getElem? (i := 13) rfl)) (hw _ (List.mem_of_getElem? (i := 2) rfl)) (by decide) (by decide)) q16a q16c (g := (mkF m 183 #[.val (.int p0), .val (.int p1), .val (.int p2), .val (.int p3), .val (.int p4), .val (.int p5), .val (.long wa), .second, .val (.long wb), .second, .val (.int (0 : Int32)), .val (.int (1 : Int32)), .val (.long ra), .second, .val (.long rb), .second, .val (.ref b1), .val (.long pB), .second, .val (.long nB), .second, .unset, .unset] [(.ref b1)])) rfl (by rw [hml]; rfl) (Steps.refl _) (argsL := []) (rest := []) (lenOf pd_0 rfl) rfl (by show 2 * 0 + _ ≤ _; exact Nat.le_of_eq rfl) (hb hby at_183) (fun _ _ => ⟨rfl, rfl, (by decide : 1 + 0 ≤ _), (by decide : 10 + 0 ≤ _)⟩)
  dsimp only [Pt.U, Pt.locs, Pt.cells, Pt.slots] at X16 l16 y16 z16 st16 hQ16
  subst l16 y16 z16
  obtain ⟨rfl, N16q, eh16⟩ := hQ16
  have N16 := Fr.app N3 N16q
  have e16 : T16.heap = T3.heap := eh16
  obtain ⟨fs, hr, hrun, hended, hW, hsame⟩ := X16.leave (v := some (.int (1 : Int32))) (fun h => by rw [Bd.returns] at h; cases h)
  refine ⟨_, _, pre0 _ ?_, hrun, hended, _, _, rfl, ?_, ⟨_, rfl⟩, hW, hsame.mono (by decide) (by decide)⟩
  · show Steps p.tables e below (s₁.setTop (mkF m 0 #[.val (.int p0), .val (.int p1), .val (.int p2), .val (.int p3), .val (.int p4), .val (.int p5), .unset, .unset, .unset, .unset, .unset, .unset, .unset, .unset, .unset, .unset, .unset, .unset, .unset, .unset, .unset, .unset, .unset] [])) _
    refine XS.iload X0.here hx rfl (hb hby at_0) rfl ?_
    refine XS.sipush X0.here hx rfl (hb hby at_2) ?_
    refine XS.iand X0.here hx rfl (hb hby at_5) rfl ?_
    refine XS.iconst X0.here hx rfl (hb hby at_6) ?_
    refine XS.iadd X0.here hx rfl (hb hby at_7) rfl ?_
    show Steps p.tables e below (s₁.setTop (mkF m 8 #[.val (.int p0), .val (.int p1), .val (.int p2), .val (.int p3), .val (.int p4), .val (.int p5), .unset, .unset, .unset, .unset, .unset, .unset, .unset, .unset, .unset, .unset, .unset, .unset, .unset, .unset, .unset, .unset, .unset] [(.int ((p4 &&& (1023 : Int32)) + (1 : Int32)))])) _
    refine XS.i2l X0.here hx rfl (hb hby at_8) rfl ?_
    show Steps p.tables e below (s₁.setTop (mkF m 9 #[.val (.int p0), .val (.int p1), .val (.int p2), .val (.int p3), .val (.int p4), .val (.int p5), .unset, .unset, .unset, .unset, .unset, .unset, .unset, .unset, .unset, .unset, .unset, .unset, .unset, .unset, .unset, .unset, .unset] [(.long (((p4 &&& (1023 : Int32)) + (1 : Int32)).toInt64))])) _
    rw [hv8]
    show Steps p.tables e below (s₁.setTop (mkF m 9 #[.val (.int p0), .val (.int p1), .val (.int p2), .val (.int p3), .val (.int p4), .val (.int p5), .unset, .unset, .unset, .unset, .unset, .unset, .unset, .unset, .unset, .unset, .unset, .unset, .unset, .unset, .unset, .unset, .unset] [(.long wa)])) _
    refine XS.lstore X0.here hx rfl (hb hby at_9) rfl (l' := #[.val (.int p0), .val (.int p1), .val (.int p2), .val (.int p3), .val (.int p4), .val (.int p5), .val (.long wa), .second, .unset, .unset, .unset, .unset, .unset, .unset, .unset, .unset, .unset, .unset, .unset, .unset, .unset, .unset, .unset]) rfl ?_
    refine XS.iload X0.here hx rfl (hb hby at_11) rfl ?_
    refine XS.sipush X0.here hx rfl (hb hby at_13) ?_
    refine XS.iand X0.here hx rfl (hb hby at_16) rfl ?_
    show Steps p.tables e below (s₁.setTop (mkF m 17 #[.val (.int p0), .val (.int p1), .val (.int p2), .val (.int p3), .val (.int p4), .val (.int p5), .val (.long wa), .second, .unset, .unset, .unset, .unset, .unset, .unset, .unset, .unset, .unset, .unset, .unset, .unset, .unset, .unset, .unset] [(.int (p5 &&& (1023 : Int32)))])) _
    refine XS.iconst X0.here hx rfl (hb hby at_17) ?_
    refine XS.iadd X0.here hx rfl (hb hby at_18) rfl ?_
    refine XS.i2l X0.here hx rfl (hb hby at_19) rfl ?_
    show Steps p.tables e below (s₁.setTop (mkF m 20 #[.val (.int p0), .val (.int p1), .val (.int p2), .val (.int p3), .val (.int p4), .val (.int p5), .val (.long wa), .second, .unset, .unset, .unset, .unset, .unset, .unset, .unset, .unset, .unset, .unset, .unset, .unset, .unset, .unset, .unset] [(.long (((p5 &&& (1023 : Int32)) + (1 : Int32)).toInt64))])) _
    rw [hv19]
    show Steps p.tables e below (s₁.setTop (mkF m 20 #[.val (.int p0), .val (.int p1), .val (.int p2), .val (.int p3), .val (.int p4), .val (.int p5), .val (.long wa), .second, .unset, .unset, .unset, .unset, .unset, .unset, .unset, .unset, .unset, .unset, .unset, .unset, .unset, .unset, .unset] [(.long wb)])) _
    refine XS.lstore X0.here hx rfl (hb hby at_20) rfl (l' := #[.val (.int p0), .val (.int p1), .val (.int p2), .val (.int p3), .val (.int p4), .val (.int p5), .val (.long wa), .second, .val (.long wb), .second, .unset, .unset, .unset, .unset, .unset, .unset, .unset, .unset, .unset, .unset, .unset, .unset, .unset]) rfl ?_
    refine XS.iload X0.here hx rfl (hb hby at_22) rfl ?_
    show Steps p.tables e below (s₁.setTop (mkF m 24 #[.val (.int p0), .val (.int p1), .val (.int p2), .val (.int p3), .val (.int p4), .val (.int p5), .val (.long wa), .second, .val (.long wb), .second, .unset, .unset, .unset, .unset, .unset, .unset, .unset, .unset, .unset, .unset, .unset, .unset, .unset] [(.int p4)])) _
    refine XS.bipush X0.here hx rfl (hb hby at_24) ?_
    refine XS.iushr X0.here hx rfl (hb hby at_26) rfl ?_
    refine XS.iconst X0.here hx rfl (hb hby at_27) ?_
    refine XS.iand X0.here hx rfl (hb hby at_28) rfl ?_
    refine XS.ifYes X0.here hx rfl (pc0 := 29) (pc' := 36) rfl (hb hby at_29) rfl ((if0 _ _).trans (teq hc29).1) (by decide) (by decide) ?_
    refine XS.iconst X0.here hx rfl (hb hby at_36) ?_
    show Steps p.tables e below (s₁.setTop (mkF m 37 #[.val (.int p0), .val (.int p1), .val (.int p2), .val (.int p3), .val (.int p4), .val (.int p5), .val (.long wa), .second, .val (.long wb), .second, .unset, .unset, .unset, .unset, .unset, .unset, .unset, .unset, .unset, .unset, .unset, .unset, .unset] [(.int (0 : Int32))])) _
    refine XS.istore X0.here hx rfl (hb hby at_37) rfl (l' := #[.val (.int p0), .val (.int p1), .val (.int p2), .val (.int p3), .val (.int p4), .val (.int p5), .val (.long wa), .second, .val (.long wb), .second, .val (.int (0 : Int32)), .unset, .unset, .unset, .unset, .unset, .unset, .unset, .unset, .unset, .unset, .unset, .unset]) rfl ?_
    refine XS.iload X0.here hx rfl (hb hby at_39) rfl ?_
    refine XS.bipush X0.here hx rfl (hb hby at_41) ?_
    refine XS.iushr X0.here hx rfl (hb hby at_43) rfl ?_
    refine XS.iconst X0.here hx rfl (hb hby at_44) ?_
    refine XS.iand X0.here hx rfl (hb hby at_45) rfl ?_
    show Steps p.tables e below (s₁.setTop (mkF m 46 #[.val (.int p0), .val (.int p1), .val (.int p2), .val (.int p3), .val (.int p4), .val (.int p5), .val (.long wa), .second, .val (.long wb), .second, .val (.int (0 : Int32)), .unset, .unset, .unset, .unset, .unset, .unset, .unset, .unset, .unset, .unset, .unset, .unset] [(.int (((p5.toUInt32 >>> ((10 : Int32) &&& 31).toUInt32).toInt32) &&& (3 : Int32)))])) _
    refine XS.ifNo X0.here hx rfl (hb hby at_46) rfl ((if0 _ _).trans (feq hc46).1) ?_
    refine XS.iconst X0.here hx rfl (hb hby at_49) ?_
    refine XS.goto X0.here hx rfl (pc0 := 50) (pc' := 54) rfl (hb hby at_50) (by decide) (by decide) ?_
    refine XS.istore X0.here hx rfl (hb hby at_54) rfl (l' := #[.val (.int p0), .val (.int p1), .val (.int p2), .val (.int p3), .val (.int p4), .val (.int p5), .val (.long wa), .second, .val (.long wb), .second, .val (.int (0 : Int32)), .val (.int (1 : Int32)), .unset, .unset, .unset, .unset, .unset, .unset, .unset, .unset, .unset, .unset, .unset]) rfl ?_
    refine XS.iloadN X0.here hx rfl (hb hby at_56) rfl ?_
    refine XS.sipush X0.here hx rfl (hb hby at_57) ?_
    show Steps p.tables e below (s₁.setTop (mkF m 60 #[.val (.int p0), .val (.int p1), .val (.int p2), .val (.int p3), .val (.int p4), .val (.int p5), .val (.long wa), .second, .val (.long wb), .second, .val (.int (0 : Int32)), .val (.int (1 : Int32)), .unset, .unset, .unset, .unset, .unset, .unset, .unset, .unset, .unset, .unset, .unset] [(.int (1024 : Int32)), (.int p2)])) _
    refine iremM (g := (mkF m 60 #[.val (.int p0), .val (.int p1), .val (.int p2), .val (.int p3), .val (.int p4), .val (.int p5), .val (.long wa), .second, .val (.long wb), .second, .val (.int (0 : Int32)), .val (.int (1 : Int32)), .unset, .unset, .unset, .unset, .unset, .unset, .unset, .unset, .unset, .unset, .unset] [(.int (1024 : Int32)), (.int p2)])) X0 hx rfl (hb hby at_60) rfl (by decide) ?_
    show Steps p.tables e below (s₁.setTop (mkF m 61 #[.val (.int p0), .val (.int p1), .val (.int p2), .val (.int p3), .val (.int p4), .val (.int p5), .val (.long wa), .second, .val (.long wb), .second, .val (.int (0 : Int32)), .val (.int (1 : Int32)), .unset, .unset, .unset, .unset, .unset, .unset, .unset, .unset, .unset, .unset, .unset] [(.int (p2 % (1024 : Int32)))])) _
    refine XS.i2l X0.here hx rfl (hb hby at_61) rfl ?_
    show Steps p.tables e below (s₁.setTop (mkF m 62 #[.val (.int p0), .val (.int p1), .val (.int p2), .val (.int p3), .val (.int p4), .val (.int p5), .val (.long wa), .second, .val (.long wb), .second, .val (.int (0 : Int32)), .val (.int (1 : Int32)), .unset, .unset, .unset, .unset, .unset, .unset, .unset, .unset, .unset, .unset, .unset] [(.long ((p2 % (1024 : Int32)).toInt64))])) _
    rw [hv61]
    show Steps p.tables e below (s₁.setTop (mkF m 62 #[.val (.int p0), .val (.int p1), .val (.int p2), .val (.int p3), .val (.int p4), .val (.int p5), .val (.long wa), .second, .val (.long wb), .second, .val (.int (0 : Int32)), .val (.int (1 : Int32)), .unset, .unset, .unset, .unset, .unset, .unset, .unset, .unset, .unset, .unset, .unset] [(.long ra)])) _
    refine XS.lstore X0.here hx rfl (hb hby at_62) rfl (l' := #[.val (.int p0), .val (.int p1), .val (.int p2), .val (.int p3), .val (.int p4), .val (.int p5), .val (.long wa), .second, .val (.long wb), .second, .val (.int (0 : Int32)), .val (.int (1 : Int32)), .val (.long ra), .second, .unset, .unset, .unset, .unset, .unset, .unset, .unset, .unset, .unset]) rfl ?_
    refine XS.iloadN X0.here hx rfl (hb hby at_64) rfl ?_
    refine XS.sipush X0.here hx rfl (hb hby at_65) ?_
    show Steps p.tables e below (s₁.setTop (mkF m 68 #[.val (.int p0), .val (.int p1), .val (.int p2), .val (.int p3), .val (.int p4), .val (.int p5), .val (.long wa), .second, .val (.long wb), .second, .val (.int (0 : Int32)), .val (.int (1 : Int32)), .val (.long ra), .second, .unset, .unset, .unset, .unset, .unset, .unset, .unset, .unset, .unset] [(.int (1024 : Int32)), (.int p3)])) _
    refine iremM (g := (mkF m 68 #[.val (.int p0), .val (.int p1), .val (.int p2), .val (.int p3), .val (.int p4), .val (.int p5), .val (.long wa), .second, .val (.long wb), .second, .val (.int (0 : Int32)), .val (.int (1 : Int32)), .val (.long ra), .second, .unset, .unset, .unset, .unset, .unset, .unset, .unset, .unset, .unset] [(.int (1024 : Int32)), (.int p3)])) X0 hx rfl (hb hby at_68) rfl (by decide) ?_
    show Steps p.tables e below (s₁.setTop (mkF m 69 #[.val (.int p0), .val (.int p1), .val (.int p2), .val (.int p3), .val (.int p4), .val (.int p5), .val (.long wa), .second, .val (.long wb), .second, .val (.int (0 : Int32)), .val (.int (1 : Int32)), .val (.long ra), .second, .unset, .unset, .unset, .unset, .unset, .unset, .unset, .unset, .unset] [(.int (p3 % (1024 : Int32)))])) _
    refine XS.i2l X0.here hx rfl (hb hby at_69) rfl ?_
    show Steps p.tables e below (s₁.setTop (mkF m 70 #[.val (.int p0), .val (.int p1), .val (.int p2), .val (.int p3), .val (.int p4), .val (.int p5), .val (.long wa), .second, .val (.long wb), .second, .val (.int (0 : Int32)), .val (.int (1 : Int32)), .val (.long ra), .second, .unset, .unset, .unset, .unset, .unset, .unset, .unset, .unset, .unset] [(.long ((p3 % (1024 : Int32)).toInt64))])) _
    rw [hv69]
    show Steps p.tables e below (s₁.setTop (mkF m 70 #[.val (.int p0), .val (.int p1), .val (.int p2), .val (.int p3), .val (.int p4), .val (.int p5), .val (.long wa), .second, .val (.long wb), .second, .val (.int (0 : Int32)), .val (.int (1 : Int32)), .val (.long ra), .second, .unset, .unset, .unset, .unset, .unset, .unset, .unset, .unset, .unset] [(.long rb)])) _
    refine XS.lstore X0.here hx rfl (hb hby at_70) rfl (l' := #[.val (.int p0), .val (.int p1), .val (.int p2), .val (.int p3), .val (.int p4), .val (.int p5), .val (.long wa), .second, .val (.long wb), .second, .val (.int (0 : Int32)), .val (.int (1 : Int32)), .val (.long ra), .second, .val (.long rb), .second, .unset, .unset, .unset, .unset, .unset, .unset, .unset]) rfl ?_
    refine st1 _ ?_
    show Steps p.tables e below (T1.setTop (mkF m 75 #[.val (.int p0), .val (.int p1), .val (.int p2), .val (.int p3), .val (.int p4), .val (.int p5), .val (.long wa), .second, .val (.long wb), .second, .val (.int (0 : Int32)), .val (.int (1 : Int32)), .val (.long ra), .second, .val (.long rb), .second, .unset, .unset, .unset, .unset, .unset, .unset, .unset] [(.ref b1)])) _
    refine XS.dup X1.here hx rfl (hb hby at_75) rfl rfl ?_
    show Steps p.tables e below (T1.setTop (mkF m 76 #[.val (.int p0), .val (.int p1), .val (.int p2), .val (.int p3), .val (.int p4), .val (.int p5), .val (.long wa), .second, .val (.long wb), .second, .val (.int (0 : Int32)), .val (.int (1 : Int32)), .val (.long ra), .second, .val (.long rb), .second, .unset, .unset, .unset, .unset, .unset, .unset, .unset] [(.ref b1), (.ref b1)])) _
    refine st2.trans ?_
    show Steps p.tables e below (T2.setTop (mkF m 79 #[.val (.int p0), .val (.int p1), .val (.int p2), .val (.int p3), .val (.int p4), .val (.int p5), .val (.long wa), .second, .val (.long wb), .second, .val (.int (0 : Int32)), .val (.int (1 : Int32)), .val (.long ra), .second, .val (.long rb), .second, .unset, .unset, .unset, .unset, .unset, .unset, .unset] [(.ref b1)])) _
    refine XS.astore X2.here hx rfl (hb hby at_79) rfl rfl (l' := #[.val (.int p0), .val (.int p1), .val (.int p2), .val (.int p3), .val (.int p4), .val (.int p5), .val (.long wa), .second, .val (.long wb), .second, .val (.int (0 : Int32)), .val (.int (1 : Int32)), .val (.long ra), .second, .val (.long rb), .second, .val (.ref b1), .unset, .unset, .unset, .unset, .unset, .unset]) rfl ?_
    refine XS.iload X2.here hx rfl (hb hby at_81) rfl ?_
    refine XS.ifYes X2.here hx rfl (pc0 := 83) (pc' := 102) rfl (hb hby at_83) rfl ((if0 _ _).trans (teq (by decide : (0 : Int32) = (0 : Int32))).1) (by decide) (by decide) ?_
    refine XS.iload X2.here hx rfl (hb hby at_102) rfl ?_
    refine XS.ifNo X2.here hx rfl (hb hby at_104) rfl ((if0 _ _).trans (feq (by decide : ¬ ((1 : Int32) = (0 : Int32)))).1) ?_
    show Steps p.tables e below (T2.setTop (mkF m 107 #[.val (.int p0), .val (.int p1), .val (.int p2), .val (.int p3), .val (.int p4), .val (.int p5), .val (.long wa), .second, .val (.long wb), .second, .val (.int (0 : Int32)), .val (.int (1 : Int32)), .val (.long ra), .second, .val (.long rb), .second, .val (.ref b1), .unset, .unset, .unset, .unset, .unset, .unset] [])) _
    refine XS.aload X2.here hx rfl (hb hby at_107) rfl rfl ?_
    refine XS.lload X2.here hx rfl (hb hby at_109) rfl ?_
    refine XS.l2dS X2.here hx rfl (hb hby at_111) rfl (v := (FP.l2d wb)) rfl ?_
    refine XS.lload X2.here hx rfl (hb hby at_112) rfl ?_
    refine XS.iloadN X2.here hx rfl (hb hby at_114) rfl ?_
    refine XS.i2l X2.here hx rfl (hb hby at_115) rfl ?_
    show Steps p.tables e below (T2.setTop (mkF m 116 #[.val (.int p0), .val (.int p1), .val (.int p2), .val (.int p3), .val (.int p4), .val (.int p5), .val (.long wa), .second, .val (.long wb), .second, .val (.int (0 : Int32)), .val (.int (1 : Int32)), .val (.long ra), .second, .val (.long rb), .second, .val (.ref b1), .unset, .unset, .unset, .unset, .unset, .unset] [(.long (p1.toInt64)), (.long rb), (.double (FP.l2d wb)), (.ref b1)])) _
    refine XS.lmul X2.here hx rfl (hb hby at_116) rfl ?_
    show Steps p.tables e below (T2.setTop (mkF m 117 #[.val (.int p0), .val (.int p1), .val (.int p2), .val (.int p3), .val (.int p4), .val (.int p5), .val (.long wa), .second, .val (.long wb), .second, .val (.int (0 : Int32)), .val (.int (1 : Int32)), .val (.long ra), .second, .val (.long rb), .second, .val (.ref b1), .unset, .unset, .unset, .unset, .unset, .unset] [(.long (rb * (p1.toInt64))), (.double (FP.l2d wb)), (.ref b1)])) _
    rw [hv116]
    show Steps p.tables e below (T2.setTop (mkF m 117 #[.val (.int p0), .val (.int p1), .val (.int p2), .val (.int p3), .val (.int p4), .val (.int p5), .val (.long wa), .second, .val (.long wb), .second, .val (.int (0 : Int32)), .val (.int (1 : Int32)), .val (.long ra), .second, .val (.long rb), .second, .val (.ref b1), .unset, .unset, .unset, .unset, .unset, .unset] [(.long xb), (.double (FP.l2d wb)), (.ref b1)])) _
    refine XS.l2dS X2.here hx rfl (hb hby at_117) rfl (v := (FP.l2d xb)) rfl ?_
    refine XS.iloadN X2.here hx rfl (hb hby at_118) rfl ?_
    refine XS.i2l X2.here hx rfl (hb hby at_119) rfl ?_
    refine st3.trans ?_
    show Steps p.tables e below (T3.setTop (mkF m 123 #[.val (.int p0), .val (.int p1), .val (.int p2), .val (.int p3), .val (.int p4), .val (.int p5), .val (.long wa), .second, .val (.long wb), .second, .val (.int (0 : Int32)), .val (.int (1 : Int32)), .val (.long ra), .second, .val (.long rb), .second, .val (.ref b1), .unset, .unset, .unset, .unset, .unset, .unset] [])) _
    refine XS.lconst X3.here hx rfl (hb hby at_123) ?_
    refine XS.lstore X3.here hx rfl (hb hby at_124) rfl (l' := #[.val (.int p0), .val (.int p1), .val (.int p2), .val (.int p3), .val (.int p4), .val (.int p5), .val (.long wa), .second, .val (.long wb), .second, .val (.int (0 : Int32)), .val (.int (1 : Int32)), .val (.long ra), .second, .val (.long rb), .second, .val (.ref b1), .val (.long (0 : Int64)), .second, .unset, .unset, .unset, .unset]) rfl ?_
    refine XS.lconst X3.here hx rfl (hb hby at_126) ?_
    refine XS.lstore X3.here hx rfl (hb hby at_127) rfl (l' := #[.val (.int p0), .val (.int p1), .val (.int p2), .val (.int p3), .val (.int p4), .val (.int p5), .val (.long wa), .second, .val (.long wb), .second, .val (.int (0 : Int32)), .val (.int (1 : Int32)), .val (.long ra), .second, .val (.long rb), .second, .val (.ref b1), .val (.long (0 : Int64)), .second, .val (.long (0 : Int64)), .second, .unset, .unset]) rfl ?_
    refine XS.iload X3.here hx rfl (hb hby at_129) rfl ?_
    refine XS.ifYes X3.here hx rfl (pc0 := 131) (pc' := 155) rfl (hb hby at_131) rfl ((if0 _ _).trans (teq (by decide : (0 : Int32) = (0 : Int32))).1) (by decide) (by decide) ?_
    show Steps p.tables e below (T3.setTop (mkF m 155 #[.val (.int p0), .val (.int p1), .val (.int p2), .val (.int p3), .val (.int p4), .val (.int p5), .val (.long wa), .second, .val (.long wb), .second, .val (.int (0 : Int32)), .val (.int (1 : Int32)), .val (.long ra), .second, .val (.long rb), .second, .val (.ref b1), .val (.long (0 : Int64)), .second, .val (.long (0 : Int64)), .second, .unset, .unset] [])) _
    refine XS.iload X3.here hx rfl (hb hby at_155) rfl ?_
    refine XS.ifNo X3.here hx rfl (hb hby at_157) rfl ((if0 _ _).trans (feq (by decide : ¬ ((1 : Int32) = (0 : Int32)))).1) ?_
    refine XS.iloadN X3.here hx rfl (hb hby at_160) rfl ?_
    refine XS.ifNo X3.here hx rfl (hb hby at_161) rfl ((if0 _ _).trans (tlt hc161).2.2.2) ?_
    refine XS.lload X3.here hx rfl (hb hby at_164) rfl ?_
    refine XS.lload X3.here hx rfl (hb hby at_166) rfl ?_
    show Steps p.tables e below (T3.setTop (mkF m 168 #[.val (.int p0), .val (.int p1), .val (.int p2), .val (.int p3), .val (.int p4), .val (.int p5), .val (.long wa), .second, .val (.long wb), .second, .val (.int (0 : Int32)), .val (.int (1 : Int32)), .val (.long ra), .second, .val (.long rb), .second, .val (.ref b1), .val (.long (0 : Int64)), .second, .val (.long (0 : Int64)), .second, .unset, .unset] [(.long wb), (.long (0 : Int64))])) _
    refine XS.ladd X3.here hx rfl (hb hby at_168) rfl ?_
    show Steps p.tables e below (T3.setTop (mkF m 169 #[.val (.int p0), .val (.int p1), .val (.int p2), .val (.int p3), .val (.int p4), .val (.int p5), .val (.long wa), .second, .val (.long wb), .second, .val (.int (0 : Int32)), .val (.int (1 : Int32)), .val (.long ra), .second, .val (.long rb), .second, .val (.ref b1), .val (.long (0 : Int64)), .second, .val (.long (0 : Int64)), .second, .unset, .unset] [(.long ((0 : Int64) + wb))])) _
    rw [hv168]
    show Steps p.tables e below (T3.setTop (mkF m 169 #[.val (.int p0), .val (.int p1), .val (.int p2), .val (.int p3), .val (.int p4), .val (.int p5), .val (.long wa), .second, .val (.long wb), .second, .val (.int (0 : Int32)), .val (.int (1 : Int32)), .val (.long ra), .second, .val (.long rb), .second, .val (.ref b1), .val (.long (0 : Int64)), .second, .val (.long (0 : Int64)), .second, .unset, .unset] [(.long pB)])) _
    refine XS.lstore X3.here hx rfl (hb hby at_169) rfl (l' := #[.val (.int p0), .val (.int p1), .val (.int p2), .val (.int p3), .val (.int p4), .val (.int p5), .val (.long wa), .second, .val (.long wb), .second, .val (.int (0 : Int32)), .val (.int (1 : Int32)), .val (.long ra), .second, .val (.long rb), .second, .val (.ref b1), .val (.long pB), .second, .val (.long (0 : Int64)), .second, .unset, .unset]) rfl ?_
    refine XS.lload X3.here hx rfl (hb hby at_171) rfl ?_
    refine XS.lload X3.here hx rfl (hb hby at_173) rfl ?_
    refine XS.lload X3.here hx rfl (hb hby at_175) rfl ?_
    show Steps p.tables e below (T3.setTop (mkF m 177 #[.val (.int p0), .val (.int p1), .val (.int p2), .val (.int p3), .val (.int p4), .val (.int p5), .val (.long wa), .second, .val (.long wb), .second, .val (.int (0 : Int32)), .val (.int (1 : Int32)), .val (.long ra), .second, .val (.long rb), .second, .val (.ref b1), .val (.long pB), .second, .val (.long (0 : Int64)), .second, .unset, .unset] [(.long rb), (.long wb), (.long (0 : Int64))])) _
    refine XS.lmul X3.here hx rfl (hb hby at_177) rfl ?_
    refine XS.ladd X3.here hx rfl (hb hby at_178) rfl ?_
    show Steps p.tables e below (T3.setTop (mkF m 179 #[.val (.int p0), .val (.int p1), .val (.int p2), .val (.int p3), .val (.int p4), .val (.int p5), .val (.long wa), .second, .val (.long wb), .second, .val (.int (0 : Int32)), .val (.int (1 : Int32)), .val (.long ra), .second, .val (.long rb), .second, .val (.ref b1), .val (.long pB), .second, .val (.long (0 : Int64)), .second, .unset, .unset] [(.long ((0 : Int64) + (wb * rb)))])) _
    rw [hv178]
    show Steps p.tables e below (T3.setTop (mkF m 179 #[.val (.int p0), .val (.int p1), .val (.int p2), .val (.int p3), .val (.int p4), .val (.int p5), .val (.long wa), .second, .val (.long wb), .second, .val (.int (0 : Int32)), .val (.int (1 : Int32)), .val (.long ra), .second, .val (.long rb), .second, .val (.ref b1), .val (.long pB), .second, .val (.long (0 : Int64)), .second, .unset, .unset] [(.long nB)])) _
    refine XS.lstore X3.here hx rfl (hb hby at_179) rfl (l' := #[.val (.int p0), .val (.int p1), .val (.int p2), .val (.int p3), .val (.int p4), .val (.int p5), .val (.long wa), .second, .val (.long wb), .second, .val (.int (0 : Int32)), .val (.int (1 : Int32)), .val (.long ra), .second, .val (.long rb), .second, .val (.ref b1), .val (.long pB), .second, .val (.long nB), .second, .unset, .unset]) rfl ?_
    refine XS.aload X3.here hx rfl (hb hby at_181) rfl rfl ?_
    refine st16.trans ?_
    show Steps p.tables e below (T16.setTop (mkF m 186 #[.val (.int p0), .val (.int p1), .val (.int p2), .val (.int p3), .val (.int p4), .val (.int p5), .val (.long wa), .second, .val (.long wb), .second, .val (.int (0 : Int32)), .val (.int (1 : Int32)), .val (.long ra), .second, .val (.long rb), .second, .val (.ref b1), .val (.long pB), .second, .val (.long nB), .second, .unset, .unset] [(.double (FP.ddiv wr1 pw1))])) _
    refine XS.dstore X16.here hx rfl (hb hby at_186) rfl (l' := #[.val (.int p0), .val (.int p1), .val (.int p2), .val (.int p3), .val (.int p4), .val (.int p5), .val (.long wa), .second, .val (.long wb), .second, .val (.int (0 : Int32)), .val (.int (1 : Int32)), .val (.long ra), .second, .val (.long rb), .second, .val (.ref b1), .val (.long pB), .second, .val (.long nB), .second, .val (.double (FP.ddiv wr1 pw1)), .second]) rfl ?_
    refine XS.lload X16.here hx rfl (hb hby at_188) rfl ?_
    refine XS.lconst X16.here hx rfl (hb hby at_190) ?_
    refine XS.lcmp X16.here hx rfl (hb hby at_191) rfl ?_
    refine XS.ifYes X16.here hx rfl (pc0 := 192) (pc' := 209) rfl (hb hby at_192) rfl ((if0 _ _).trans (feq hc192).2) (by decide) (by decide) ?_
    refine XS.dload X16.here hx rfl (hb hby at_209) rfl ?_
    show Steps p.tables e below (T16.setTop (mkF m 211 #[.val (.int p0), .val (.int p1), .val (.int p2), .val (.int p3), .val (.int p4), .val (.int p5), .val (.long wa), .second, .val (.long wb), .second, .val (.int (0 : Int32)), .val (.int (1 : Int32)), .val (.long ra), .second, .val (.long rb), .second, .val (.ref b1), .val (.long pB), .second, .val (.long nB), .second, .val (.double (FP.ddiv wr1 pw1)), .second] [(.double (FP.ddiv wr1 pw1))])) _
    refine XS.lload X16.here hx rfl (hb hby at_211) rfl ?_
    refine XS.l2dS X16.here hx rfl (hb hby at_213) rfl (v := (FP.l2d nB)) rfl ?_
    refine XS.lload X16.here hx rfl (hb hby at_214) rfl ?_
    refine XS.l2dS X16.here hx rfl (hb hby at_216) rfl (v := (FP.l2d pB)) rfl ?_
    refine XS.ddivS X16.here hx rfl (hb hby at_217) rfl nn217 (v := (FP.ddiv (FP.l2d nB) (FP.l2d pB))) rfl ?_
    refine XS.dcmpS X16.here hx rfl (hb hby at_218) rfl (v := (0 : Int32)) hd218 ?_
    show Steps p.tables e below (T16.setTop (mkF m 219 #[.val (.int p0), .val (.int p1), .val (.int p2), .val (.int p3), .val (.int p4), .val (.int p5), .val (.long wa), .second, .val (.long wb), .second, .val (.int (0 : Int32)), .val (.int (1 : Int32)), .val (.long ra), .second, .val (.long rb), .second, .val (.ref b1), .val (.long pB), .second, .val (.long nB), .second, .val (.double (FP.ddiv wr1 pw1)), .second] [(.int (0 : Int32))])) _
    refine XS.ifNo X16.here hx rfl (hb hby at_219) rfl ((if0 _ _).trans (teq (by decide : (0 : Int32) = (0 : Int32))).2) ?_
    refine XS.iconst X16.here hx rfl (hb hby at_222) ?_
    refine XS.goto X16.here hx rfl (pc0 := 223) (pc' := 227) rfl (hb hby at_223) (by decide) (by decide) ?_
    exact retN X16 hx (t := .boolean) Bd.returns (by simp) (hb hby at_227) hr
  · show Q0 n0 _ T16.heap _
    rw [e16]
    exact ⟨rfl, N16⟩
set_option maxRecDepth 65536 in
set_option maxHeartbeats 40000000 in
theorem rm0_oz (l : Launch) (Z : State) (a0 : Array Value) (hw : ∀ d ∈ tables_1, d.before a0 Z = true) (ws : List Jvm.Cond) (p0 : Int32) (p1 : Int32) (p2 : Int32) (p3 : Int32) (p4 : Int32) (p5 : Int32) (ob1 : UInt64) (pb1 : UInt64) (w1 : UInt64) (so1 : UInt64) (sp1 : UInt64) (oa1 : UInt64) (pa1 : UInt64) (ma1 : UInt64) (mb1 : UInt64) (mc1 : UInt64) (zw1 : UInt64) (wa : Int64) (wb : Int64) (ra : Int64) (rb : Int64) (xb : Int64) (h0 : Heap) (n0 : Nat) (Z0 : n0 ≤ h0.size) (hv8 : (((p4 &&& (1023 : Int32)) + (1 : Int32)).toInt64) = wa) (hv19 : (((p5 &&& (1023 : Int32)) + (1 : Int32)).toInt64) = wb) (hc29 : (((p4.toUInt32 >>> ((10 : Int32) &&& 31).toUInt32).toInt32) &&& (3 : Int32)) = (0 : Int32)) (hc46 : ¬ ((((p5.toUInt32 >>> ((10 : Int32) &&& 31).toUInt32).toInt32) &&& (3 : Int32)) = (0 : Int32))) (hv61 : ((p2 % (1024 : Int32)).toInt64) = ra) (hv69 : ((p3 % (1024 : Int32)).toInt64) = rb) (hv116 : (rb * (p1.toInt64)) = xb) (nn5_120 : Jvm.Free.Fl.NoNaN64 (FP.dsub (FP.l2d xb) (0 : UInt64))) (hq5_120 : (FP.dsub (FP.l2d xb) (0 : UInt64)) = ob1) (nn15_120 : Jvm.Free.Fl.NoNaN64 (FP.dsub (FP.l2d (p1.toInt64)) (0 : UInt64))) (hq15_120 : (FP.dsub (FP.l2d (p1.toInt64)) (0 : UInt64)) = pb1) (nn34_120 : Jvm.Free.Fl.NoNaN64 (FP.dadd (0 : UInt64) (FP.l2d wb))) (hq34_120 : (FP.dadd (0 : UInt64) (FP.l2d wb)) = w1) (nn45_120 : Jvm.Free.Fl.NoNaN64 (FP.dmul (FP.l2d wb) (FP.l2d xb))) (nn46_120 : Jvm.Free.Fl.NoNaN64 (FP.dadd (0 : UInt64) (FP.dmul (FP.l2d wb) (FP.l2d xb)))) (hq46_120 : (FP.dadd (0 : UInt64) (FP.dmul (FP.l2d wb) (FP.l2d xb))) = so1) (nn59_120 : Jvm.Free.Fl.NoNaN64 (FP.dmul (FP.l2d wb) (FP.l2d (p1.toInt64)))) (nn60_120 : Jvm.Free.Fl.NoNaN64 (FP.dadd (0 : UInt64) (FP.dmul (FP.l2d wb) (FP.l2d (p1.toInt64))))) (hq60_120 : (FP.dadd (0 : UInt64) (FP.dmul (FP.l2d wb) (FP.l2d (p1.toInt64)))) = sp1) (nn21_66_120 : Jvm.Free.Fl.NoNaN64 (FP.ddiv so1 w1)) (nn69_120 : Jvm.Free.Fl.NoNaN64 (FP.dsub (FP.l2d xb) (FP.ddiv so1 w1))) (hq69_120 : (FP.dsub (FP.l2d xb) (FP.ddiv so1 w1)) = oa1) (nn21_76_120 : Jvm.Free.Fl.NoNaN64 (FP.ddiv sp1 w1)) (nn79_120 : Jvm.Free.Fl.NoNaN64 (FP.dsub (FP.l2d (p1.toInt64)) (FP.ddiv sp1 w1))) (hq79_120 : (FP.dsub (FP.l2d (p1.toInt64)) (FP.ddiv sp1 w1)) = pa1) (nn90_120 : Jvm.Free.Fl.NoNaN64 (FP.dmul (FP.l2d wb) ob1)) (nn93_120 : Jvm.Free.Fl.NoNaN64 (FP.dmul (FP.dmul (FP.l2d wb) ob1) oa1)) (nn94_120 : Jvm.Free.Fl.NoNaN64 (FP.dadd (0 : UInt64) (FP.dmul (FP.dmul (FP.l2d wb) ob1) oa1))) (hq94_120 : (FP.dadd (0 : UInt64) (FP.dmul (FP.dmul (FP.l2d wb) ob1) oa1)) = ma1) (nn106_120 : Jvm.Free.Fl.NoNaN64 (FP.dmul (FP.l2d wb) pb1)) (nn109_120 : Jvm.Free.Fl.NoNaN64 (FP.dmul (FP.dmul (FP.l2d wb) pb1) pa1)) (nn110_120 : Jvm.Free.Fl.NoNaN64 (FP.dadd (0 : UInt64) (FP.dmul (FP.dmul (FP.l2d wb) pb1) pa1))) (hq110_120 : (FP.dadd (0 : UInt64) (FP.dmul (FP.dmul (FP.l2d wb) pb1) pa1)) = mb1) (nn122_120 : Jvm.Free.Fl.NoNaN64 (FP.dmul (FP.l2d wb) ob1)) (nn125_120 : Jvm.Free.Fl.NoNaN64 (FP.dmul (FP.dmul (FP.l2d wb) ob1) pa1)) (nn126_120 : Jvm.Free.Fl.NoNaN64 (FP.dadd (0 : UInt64) (FP.dmul (FP.dmul (FP.l2d wb) ob1) pa1))) (hq126_120 : (FP.dadd (0 : UInt64) (FP.dmul (FP.dmul (FP.l2d wb) ob1) pa1)) = mc1) (hc134_120 : ¬ ((0 : Int32) < (lcmpW (p1.toInt64) (0 : Int64)))) (nn172_120 : Jvm.Free.Fl.NoNaN64 (FP.dadd (0 : UInt64) (FP.l2d wb))) (hq172_120 : (FP.dadd (0 : UInt64) (FP.l2d wb)) = zw1) (hc161 : ¬ ((0 : Int32) < p1)) (hd5_183 : (cmpValue (FP.dcmp (0 : UInt64) (0 : UInt64)) .l) = (0 : Int32)) (hd199 : (cmpValue (FP.dcmp (9221120237041090560 : UInt64) (9221120237041090560 : UInt64)) .l) = (-1 : Int32)) :
    MetFree l x (head1 (Jvm.Cond.code x code maxLocals ret :: ws) room_1) (fun a U => a = #[(.int p0), (.int p1), (.int p2), (.int p3), (.int p4), (.int p5)] ∧ Z.Warmed39 U.vm ∧ U.heap = h0) (fun _ _ _ _ _ => True) (fun _ U o U' => ∃ v L, o = .returned v ∧ Q0 n0 v U'.heap L ∧ FrameEnd U o U' L room_1.cells room_1.slots) := by
  refine MetFree.of_bodySF (plainFor_of_name pn_com_example_arrivals_arrivals_core_SequenceStatisticsExpectedRatioPinLaw) hisR ?_
  intro p e s m args below meth c s₁ Bd hml0 hP hK
  obtain ⟨rfl, hZ, hh⟩ := hP
  have hx := Bd.exec
  have hby := Bd.bytes
  have hml : c.maxLocals = 23 := hml0
  have hown : s.vm.findClass "com/example/arrivals/arrivals/core/SequenceStatisticsExpectedRatioPinLaw" = some m.cls := findClass_of_methodNamed Bd.named
  have hnm := (name_of_methodNamed Bd.named Bd.method).1
  have X0 : Stand p l e room_1 s m #[(.int p0), (.int p1), (.int p2), (.int p3), (.int p4), (.int p5)] below meth c s₁ [] 0 0 := Stand.of_body Bd
  have e0 : s₁.heap = h0 := by rw [← hh, Bd.state]; rfl
  have N0 := Fr.nil n0
  have pre0 : ∀ t, Steps p.tables e below (s₁.setTop (mkF m 0 #[.val (.int p0), .val (.int p1), .val (.int p2), .val (.int p3), .val (.int p4), .val (.int p5), .unset, .unset, .unset, .unset, .unset, .unset, .unset, .unset, .unset, .unset, .unset, .unset, .unset, .unset, .unset, .unset, .unset] [])) t → Steps p.tables e below (s₁.setTop (entryFrame m #[(.int p0), (.int p1), (.int p2), (.int p3), (.int p4), (.int p5)] maxLocals)) t := fun t k => castTop (ef_0_IIIIII m p0 p1 p2 p3 p4 p5) k
  obtain ⟨T1, h1, X1, e1, E1, A1, D1, -, st1⟩ := newO X0 hx hZ hown (hw _ (List.mem_of_getElem? (i := 0) rfl)) (hw _ (List.mem_of_getElem? (i := 1) rfl)) (hw _ (List.mem_of_getElem? (i := 2) rfl)) e0 (g := (mkF m 72 #[.val (.int p0), .val (.int p1), .val (.int p2), .val (.int p3), .val (.int p4), .val (.int p5), .val (.long wa), .second, .val (.long wb), .second, .val (.int (0 : Int32)), .val (.int (1 : Int32)), .val (.long ra), .second, .val (.long rb), .second, .unset, .unset, .unset, .unset, .unset, .unset, .unset] [])) rfl (hb hby at_72) (by decide) (by decide)
  obtain ⟨b1, g1⟩ : ∃ z, z = h0.size := ⟨_, rfl⟩
  rw [← g1] at A1 D1 st1
  have g_b1 : n0 ≤ b1 := Nat.le_trans Z0 (Nat.le_of_eq g1.symm)
  have sz_b1 : h0.size ≤ b1 := Nat.le_trans (Keep.refl h0 []).1 (Nat.le_of_eq g1.symm)
  have K1 : Keep h0 h1 [] := (Keep.refl h0 []).ext E1
  have Zs1 := Nat.le_trans Z0 E1.1
  have F1_positiveWeight : Fld Z h1 b1 "com/example/arrivals/arrivals/core/SequenceStatistics" "positiveWeight" "D" (.double (0 : UInt64)) := D1 (Or.inl (hw _ (List.mem_of_getElem? (i := 15) rfl))) (ty := .double) (by decide)
  have F1_count : Fld Z h1 b1 "com/example/arrivals/arrivals/core/SequenceStatistics" "count" "J" (.long (0 : Int64)) := D1 (Or.inl (hw _ (List.mem_of_getElem? (i := 28) rfl))) (ty := .long) (by decide)
  have F1_weight : Fld Z h1 b1 "com/example/arrivals/arrivals/core/SequenceStatistics" "weight" "D" (.double (0 : UInt64)) := D1 (Or.inl (hw _ (List.mem_of_getElem? (i := 35) rfl))) (ty := .double) (by decide)
  have F1_sumOnline : Fld Z h1 b1 "com/example/arrivals/arrivals/core/SequenceStatistics" "sumOnline" "D" (.double (0 : UInt64)) := D1 (Or.inl (hw _ (List.mem_of_getElem? (i := 37) rfl))) (ty := .double) (by decide)
  have F1_sumOptimum : Fld Z h1 b1 "com/example/arrivals/arrivals/core/SequenceStatistics" "sumOptimum" "D" (.double (0 : UInt64)) := D1 (Or.inl (hw _ (List.mem_of_getElem? (i := 39) rfl))) (ty := .double) (by decide)
  have F1_comomentOnline : Fld Z h1 b1 "com/example/arrivals/arrivals/core/SequenceStatistics" "comomentOnline" "D" (.double (0 : UInt64)) := D1 (Or.inl (hw _ (List.mem_of_getElem? (i := 41) rfl))) (ty := .double) (by decide)
  have F1_comomentOptimum : Fld Z h1 b1 "com/example/arrivals/arrivals/core/SequenceStatistics" "comomentOptimum" "D" (.double (0 : UInt64)) := D1 (Or.inl (hw _ (List.mem_of_getElem? (i := 43) rfl))) (ty := .double) (by decide)
  have F1_comomentBoth : Fld Z h1 b1 "com/example/arrivals/arrivals/core/SequenceStatistics" "comomentBoth" "D" (.double (0 : UInt64)) := D1 (Or.inl (hw _ (List.mem_of_getElem? (i := 45) rfl))) (ty := .double) (by decide)
  have F1_zeroWeight : Fld Z h1 b1 "com/example/arrivals/arrivals/core/SequenceStatistics" "zeroWeight" "D" (.double (0 : UInt64)) := D1 (Or.inl (hw _ (List.mem_of_getElem? (i := 47) rfl))) (ty := .double) (by decide)
  have F1_weightedRatios : Fld Z h1 b1 "com/example/arrivals/arrivals/core/SequenceStatistics" "weightedRatios" "D" (.double (0 : UInt64)) := D1 (Or.inl (hw _ (List.mem_of_getElem? (i := 49) rfl))) (ty := .double) (by decide)
  obtain ⟨_, _, ⟨T2, L2, k2, n2⟩, -, X2, ⟨Lc2, hQ2, l2, y2, z2⟩, st2⟩ := X1.specialBack hx (y := (⟨"com/example/arrivals/arrivals/core/SequenceStatistics", "<init>", "()V"⟩ : MethodName)) rfl hown (mvT hZ (hw _ (List.mem_of_getElem? (i := 3) rfl))) (mvT hZ (hw _ (List.mem_of_getElem? (i := 4) rfl))) (mvT hZ (hw _ (List.mem_of_getElem? (i := 5) rfl))) (by decide) (backOf (W := 1) (rm1 l Z a0 hw [] b1 h1 n0 Zs1 A1) hZ (hw _ (List.mem_of_getElem? (i := 5) rfl)) (hw _ (List.mem_of_getElem? (i := 2) rfl)) (by decide) (by decide)) (g := (mkF m 76 #[.val (.int p0), .val (.int p1), .val (.int p2), .val (.int p3), .val (.int p4), .val (.int p5), .val (.long wa), .second, .val (.long wb), .second, .val (.int (0 : Int32)), .val (.int (1 : Int32)), .val (.long ra), .second, .val (.long rb), .second, .unset, .unset, .unset, .unset, .unset, .unset, .unset] [(.ref b1), (.ref b1)])) rfl (by rw [hml]; rfl) (Steps.refl _) (a := b1) (argsL := []) (rest := [(.ref b1)]) (lenOf pd_1 rfl) rfl (by show 2 * 0 + _ ≤ _; exact Nat.le_of_eq rfl) (hb hby at_76) (fun _ _ => ⟨rfl, e1, (by decide : 1 + 0 ≤ _), (by decide : 10 + 0 ≤ _)⟩)
  dsimp only [Pt.U, Pt.locs, Pt.cells, Pt.slots] at X2 l2 y2 z2 st2 hQ2
  subst l2 y2 z2
  obtain ⟨rfl, N2q, eh2⟩ := hQ2
  have N2 := Fr.app N0 N2q
  have e2 : T2.heap = h1 := eh2
  obtain ⟨cq3, kq3, q3a, q3b, q3c⟩ := isOf hZ e2 A1
  obtain ⟨_, _, ⟨T3, L3, k3, n3⟩, -, X3, ⟨Lc3, hQ3, l3, y3, z3⟩, st3⟩ := X2.virtualBack hx (y := (⟨"com/example/arrivals/arrivals/core/SequenceStatistics", "add", "(DDJ)V"⟩ : MethodName)) (z := (⟨"com/example/arrivals/arrivals/core/SequenceStatistics", "add", "(DDJ)V"⟩ : MethodName)) hown (mvT hZ (hw _ (List.mem_of_getElem? (i := 17) rfl))) (mvT hZ (hw _ (List.mem_of_getElem? (i := 18) rfl))) (notFace_of_selects (args := #[]) (mvT hZ (hw _ (List.mem_of_getElem? (i := 20) rfl)))) (mvT hZ (hw _ (List.mem_of_getElem? (i := 20) rfl))) (mvT hZ (hw _ (List.mem_of_getElem? (i := 19) rfl))) (by decide) (backOf (W := 0) (rm4_0z l Z a0 hw [] b1 (FP.l2d wb) (FP.l2d xb) (p1.toInt64) ob1 pb1 w1 so1 sp1 oa1 pa1 ma1 mb1 mc1 zw1 h1 n0 Zs1 A1 g_b1 F1_count F1_weight F1_sumOnline F1_sumOptimum F1_comomentOnline F1_comomentOptimum F1_comomentBoth F1_positiveWeight F1_weightedRatios F1_zeroWeight nn5_120 hq5_120 nn15_120 hq15_120 nn34_120 hq34_120 nn45_120 nn46_120 hq46_120 nn59_120 nn60_120 hq60_120 nn21_66_120 nn69_120 hq69_120 nn21_76_120 nn79_120 hq79_120 nn90_120 nn93_120 nn94_120 hq94_120 nn106_120 nn109_120 nn110_120 hq110_120 nn122_120 nn125_120 nn126_120 hq126_120 hc134_120 nn172_120 hq172_120) hZ (hw _ (List.mem_of_getElem? (i := 21) rfl)) (hw _ (List.mem_of_getElem? (i := 2) rfl)) (by decide) (by decide)) q3a q3c (g := (mkF m 120 #[.val (.int p0), .val (.int p1), .val (.int p2), .val (.int p3), .val (.int p4), .val (.int p5), .val (.long wa), .second, .val (.long wb), .second, .val (.int (0 : Int32)), .val (.int (1 : Int32)), .val (.long ra), .second, .val (.long rb), .second, .val (.ref b1), .unset, .unset, .unset, .unset, .unset, .unset] [(.long (p1.toInt64)), (.double (FP.l2d xb)), (.double (FP.l2d wb)), (.ref b1)])) rfl (by rw [hml]; rfl) (Steps.refl _) (argsL := [(.double (FP.l2d wb)), (.double (FP.l2d xb)), (.long (p1.toInt64))]) (rest := []) (lenOf pd_2 rfl) rfl (by show 2 * 0 + _ ≤ _; exact Nat.le_of_eq rfl) (hb hby at_120) (fun _ _ => ⟨rfl, e2, (by decide : 1 + 0 ≤ _), (by decide : 10 + 0 ≤ _)⟩)
  dsimp only [Pt.U, Pt.locs, Pt.cells, Pt.slots] at X3 l3 y3 z3 st3 hQ3
  subst l3 y3 z3
  obtain ⟨rfl, N3q, K3q, f4, f5, f6, f7, f8, f9, f10, f11, f12, f13, f14⟩ := hQ3
  have N3 := Fr.app N2 N3q
  have f15 := A1.keep K3q
  have K3 : Keep h0 T3.heap [] := K1.trans K3q (own_allS (Or.inr sz_b1) own_all0)
  have Zs3 := Nat.le_trans Zs1 K3q.1
  obtain ⟨cq16, kq16, q16a, q16b, q16c⟩ := isOf hZ rfl f4
  obtain ⟨_, _, ⟨T16, L16, k16, n16⟩, -, X16, ⟨Lc16, hQ16, l16, y16, z16⟩, st16⟩ := X3.virtualBack hx (y := (⟨"com/example/arrivals/arrivals/core/SequenceStatistics", "expectedRatio", "()D"⟩ : MethodName)) (z := (⟨"com/example/arrivals/arrivals/core/SequenceStatistics", "expectedRatio", "()D"⟩ : MethodName)) hown (mvT hZ (hw _ (List.mem_of_getElem? (i := 9) rfl))) (mvT hZ (hw _ (List.mem_of_getElem? (i := 10) rfl))) (notFace_of_selects (args := #[]) (mvT hZ (hw _ (List.mem_of_getElem? (i := 12) rfl)))) (mvT hZ (hw _ (List.mem_of_getElem? (i := 12) rfl))) (mvT hZ (hw _ (List.mem_of_getElem? (i := 11) rfl))) (by decide) (backOf (W := 0) (rm3z l Z a0 hw [] b1 (0 : UInt64) (0 : UInt64) T3.heap n0 Zs3 f12 f13 hd5_183) hZ (hw _ (List.mem_of_getElem? (i := 13) rfl)) (hw _ (List.mem_of_getElem? (i := 2) rfl)) (by decide) (by decide)) q16a q16c (g := (mkF m 183 #[.val (.int p0), .val (.int p1), .val (.int p2), .val (.int p3), .val (.int p4), .val (.int p5), .val (.long wa), .second, .val (.long wb), .second, .val (.int (0 : Int32)), .val (.int (1 : Int32)), .val (.long ra), .second, .val (.long rb), .second, .val (.ref b1), .val (.long (0 : Int64)), .second, .val (.long (0 : Int64)), .second, .unset, .unset] [(.ref b1)])) rfl (by rw [hml]; rfl) (Steps.refl _) (argsL := []) (rest := []) (lenOf pd_0 rfl) rfl (by show 2 * 0 + _ ≤ _; exact Nat.le_of_eq rfl) (hb hby at_183) (fun _ _ => ⟨rfl, rfl, (by decide : 1 + 0 ≤ _), (by decide : 10 + 0 ≤ _)⟩)
  dsimp only [Pt.U, Pt.locs, Pt.cells, Pt.slots] at X16 l16 y16 z16 st16 hQ16
  subst l16 y16 z16
  obtain ⟨rfl, N16q, eh16⟩ := hQ16
  have N16 := Fr.app N3 N16q
  have e16 : T16.heap = T3.heap := eh16
  obtain ⟨fs, hr, hrun, hended, hW, hsame⟩ := X16.leave (v := some (.int (1 : Int32))) (fun h => by rw [Bd.returns] at h; cases h)
  refine ⟨_, _, pre0 _ ?_, hrun, hended, _, _, rfl, ?_, ⟨_, rfl⟩, hW, hsame.mono (by decide) (by decide)⟩
  · show Steps p.tables e below (s₁.setTop (mkF m 0 #[.val (.int p0), .val (.int p1), .val (.int p2), .val (.int p3), .val (.int p4), .val (.int p5), .unset, .unset, .unset, .unset, .unset, .unset, .unset, .unset, .unset, .unset, .unset, .unset, .unset, .unset, .unset, .unset, .unset] [])) _
    refine XS.iload X0.here hx rfl (hb hby at_0) rfl ?_
    refine XS.sipush X0.here hx rfl (hb hby at_2) ?_
    refine XS.iand X0.here hx rfl (hb hby at_5) rfl ?_
    refine XS.iconst X0.here hx rfl (hb hby at_6) ?_
    refine XS.iadd X0.here hx rfl (hb hby at_7) rfl ?_
    show Steps p.tables e below (s₁.setTop (mkF m 8 #[.val (.int p0), .val (.int p1), .val (.int p2), .val (.int p3), .val (.int p4), .val (.int p5), .unset, .unset, .unset, .unset, .unset, .unset, .unset, .unset, .unset, .unset, .unset, .unset, .unset, .unset, .unset, .unset, .unset] [(.int ((p4 &&& (1023 : Int32)) + (1 : Int32)))])) _
    refine XS.i2l X0.here hx rfl (hb hby at_8) rfl ?_
    show Steps p.tables e below (s₁.setTop (mkF m 9 #[.val (.int p0), .val (.int p1), .val (.int p2), .val (.int p3), .val (.int p4), .val (.int p5), .unset, .unset, .unset, .unset, .unset, .unset, .unset, .unset, .unset, .unset, .unset, .unset, .unset, .unset, .unset, .unset, .unset] [(.long (((p4 &&& (1023 : Int32)) + (1 : Int32)).toInt64))])) _
    rw [hv8]
    show Steps p.tables e below (s₁.setTop (mkF m 9 #[.val (.int p0), .val (.int p1), .val (.int p2), .val (.int p3), .val (.int p4), .val (.int p5), .unset, .unset, .unset, .unset, .unset, .unset, .unset, .unset, .unset, .unset, .unset, .unset, .unset, .unset, .unset, .unset, .unset] [(.long wa)])) _
    refine XS.lstore X0.here hx rfl (hb hby at_9) rfl (l' := #[.val (.int p0), .val (.int p1), .val (.int p2), .val (.int p3), .val (.int p4), .val (.int p5), .val (.long wa), .second, .unset, .unset, .unset, .unset, .unset, .unset, .unset, .unset, .unset, .unset, .unset, .unset, .unset, .unset, .unset]) rfl ?_
    refine XS.iload X0.here hx rfl (hb hby at_11) rfl ?_
    refine XS.sipush X0.here hx rfl (hb hby at_13) ?_
    refine XS.iand X0.here hx rfl (hb hby at_16) rfl ?_
    show Steps p.tables e below (s₁.setTop (mkF m 17 #[.val (.int p0), .val (.int p1), .val (.int p2), .val (.int p3), .val (.int p4), .val (.int p5), .val (.long wa), .second, .unset, .unset, .unset, .unset, .unset, .unset, .unset, .unset, .unset, .unset, .unset, .unset, .unset, .unset, .unset] [(.int (p5 &&& (1023 : Int32)))])) _
    refine XS.iconst X0.here hx rfl (hb hby at_17) ?_
    refine XS.iadd X0.here hx rfl (hb hby at_18) rfl ?_
    refine XS.i2l X0.here hx rfl (hb hby at_19) rfl ?_
    show Steps p.tables e below (s₁.setTop (mkF m 20 #[.val (.int p0), .val (.int p1), .val (.int p2), .val (.int p3), .val (.int p4), .val (.int p5), .val (.long wa), .second, .unset, .unset, .unset, .unset, .unset, .unset, .unset, .unset, .unset, .unset, .unset, .unset, .unset, .unset, .unset] [(.long (((p5 &&& (1023 : Int32)) + (1 : Int32)).toInt64))])) _
    rw [hv19]
    show Steps p.tables e below (s₁.setTop (mkF m 20 #[.val (.int p0), .val (.int p1), .val (.int p2), .val (.int p3), .val (.int p4), .val (.int p5), .val (.long wa), .second, .unset, .unset, .unset, .unset, .unset, .unset, .unset, .unset, .unset, .unset, .unset, .unset, .unset, .unset, .unset] [(.long wb)])) _
    refine XS.lstore X0.here hx rfl (hb hby at_20) rfl (l' := #[.val (.int p0), .val (.int p1), .val (.int p2), .val (.int p3), .val (.int p4), .val (.int p5), .val (.long wa), .second, .val (.long wb), .second, .unset, .unset, .unset, .unset, .unset, .unset, .unset, .unset, .unset, .unset, .unset, .unset, .unset]) rfl ?_
    refine XS.iload X0.here hx rfl (hb hby at_22) rfl ?_
    show Steps p.tables e below (s₁.setTop (mkF m 24 #[.val (.int p0), .val (.int p1), .val (.int p2), .val (.int p3), .val (.int p4), .val (.int p5), .val (.long wa), .second, .val (.long wb), .second, .unset, .unset, .unset, .unset, .unset, .unset, .unset, .unset, .unset, .unset, .unset, .unset, .unset] [(.int p4)])) _
    refine XS.bipush X0.here hx rfl (hb hby at_24) ?_
    refine XS.iushr X0.here hx rfl (hb hby at_26) rfl ?_
    refine XS.iconst X0.here hx rfl (hb hby at_27) ?_
    refine XS.iand X0.here hx rfl (hb hby at_28) rfl ?_
    refine XS.ifYes X0.here hx rfl (pc0 := 29) (pc' := 36) rfl (hb hby at_29) rfl ((if0 _ _).trans (teq hc29).1) (by decide) (by decide) ?_
    refine XS.iconst X0.here hx rfl (hb hby at_36) ?_
    show Steps p.tables e below (s₁.setTop (mkF m 37 #[.val (.int p0), .val (.int p1), .val (.int p2), .val (.int p3), .val (.int p4), .val (.int p5), .val (.long wa), .second, .val (.long wb), .second, .unset, .unset, .unset, .unset, .unset, .unset, .unset, .unset, .unset, .unset, .unset, .unset, .unset] [(.int (0 : Int32))])) _
    refine XS.istore X0.here hx rfl (hb hby at_37) rfl (l' := #[.val (.int p0), .val (.int p1), .val (.int p2), .val (.int p3), .val (.int p4), .val (.int p5), .val (.long wa), .second, .val (.long wb), .second, .val (.int (0 : Int32)), .unset, .unset, .unset, .unset, .unset, .unset, .unset, .unset, .unset, .unset, .unset, .unset]) rfl ?_
    refine XS.iload X0.here hx rfl (hb hby at_39) rfl ?_
    refine XS.bipush X0.here hx rfl (hb hby at_41) ?_
    refine XS.iushr X0.here hx rfl (hb hby at_43) rfl ?_
    refine XS.iconst X0.here hx rfl (hb hby at_44) ?_
    refine XS.iand X0.here hx rfl (hb hby at_45) rfl ?_
    show Steps p.tables e below (s₁.setTop (mkF m 46 #[.val (.int p0), .val (.int p1), .val (.int p2), .val (.int p3), .val (.int p4), .val (.int p5), .val (.long wa), .second, .val (.long wb), .second, .val (.int (0 : Int32)), .unset, .unset, .unset, .unset, .unset, .unset, .unset, .unset, .unset, .unset, .unset, .unset] [(.int (((p5.toUInt32 >>> ((10 : Int32) &&& 31).toUInt32).toInt32) &&& (3 : Int32)))])) _
    refine XS.ifNo X0.here hx rfl (hb hby at_46) rfl ((if0 _ _).trans (feq hc46).1) ?_
    refine XS.iconst X0.here hx rfl (hb hby at_49) ?_
    refine XS.goto X0.here hx rfl (pc0 := 50) (pc' := 54) rfl (hb hby at_50) (by decide) (by decide) ?_
    refine XS.istore X0.here hx rfl (hb hby at_54) rfl (l' := #[.val (.int p0), .val (.int p1), .val (.int p2), .val (.int p3), .val (.int p4), .val (.int p5), .val (.long wa), .second, .val (.long wb), .second, .val (.int (0 : Int32)), .val (.int (1 : Int32)), .unset, .unset, .unset, .unset, .unset, .unset, .unset, .unset, .unset, .unset, .unset]) rfl ?_
    refine XS.iloadN X0.here hx rfl (hb hby at_56) rfl ?_
    refine XS.sipush X0.here hx rfl (hb hby at_57) ?_
    show Steps p.tables e below (s₁.setTop (mkF m 60 #[.val (.int p0), .val (.int p1), .val (.int p2), .val (.int p3), .val (.int p4), .val (.int p5), .val (.long wa), .second, .val (.long wb), .second, .val (.int (0 : Int32)), .val (.int (1 : Int32)), .unset, .unset, .unset, .unset, .unset, .unset, .unset, .unset, .unset, .unset, .unset] [(.int (1024 : Int32)), (.int p2)])) _
    refine iremM (g := (mkF m 60 #[.val (.int p0), .val (.int p1), .val (.int p2), .val (.int p3), .val (.int p4), .val (.int p5), .val (.long wa), .second, .val (.long wb), .second, .val (.int (0 : Int32)), .val (.int (1 : Int32)), .unset, .unset, .unset, .unset, .unset, .unset, .unset, .unset, .unset, .unset, .unset] [(.int (1024 : Int32)), (.int p2)])) X0 hx rfl (hb hby at_60) rfl (by decide) ?_
    show Steps p.tables e below (s₁.setTop (mkF m 61 #[.val (.int p0), .val (.int p1), .val (.int p2), .val (.int p3), .val (.int p4), .val (.int p5), .val (.long wa), .second, .val (.long wb), .second, .val (.int (0 : Int32)), .val (.int (1 : Int32)), .unset, .unset, .unset, .unset, .unset, .unset, .unset, .unset, .unset, .unset, .unset] [(.int (p2 % (1024 : Int32)))])) _
    refine XS.i2l X0.here hx rfl (hb hby at_61) rfl ?_
    show Steps p.tables e below (s₁.setTop (mkF m 62 #[.val (.int p0), .val (.int p1), .val (.int p2), .val (.int p3), .val (.int p4), .val (.int p5), .val (.long wa), .second, .val (.long wb), .second, .val (.int (0 : Int32)), .val (.int (1 : Int32)), .unset, .unset, .unset, .unset, .unset, .unset, .unset, .unset, .unset, .unset, .unset] [(.long ((p2 % (1024 : Int32)).toInt64))])) _
    rw [hv61]
    show Steps p.tables e below (s₁.setTop (mkF m 62 #[.val (.int p0), .val (.int p1), .val (.int p2), .val (.int p3), .val (.int p4), .val (.int p5), .val (.long wa), .second, .val (.long wb), .second, .val (.int (0 : Int32)), .val (.int (1 : Int32)), .unset, .unset, .unset, .unset, .unset, .unset, .unset, .unset, .unset, .unset, .unset] [(.long ra)])) _
    refine XS.lstore X0.here hx rfl (hb hby at_62) rfl (l' := #[.val (.int p0), .val (.int p1), .val (.int p2), .val (.int p3), .val (.int p4), .val (.int p5), .val (.long wa), .second, .val (.long wb), .second, .val (.int (0 : Int32)), .val (.int (1 : Int32)), .val (.long ra), .second, .unset, .unset, .unset, .unset, .unset, .unset, .unset, .unset, .unset]) rfl ?_
    refine XS.iloadN X0.here hx rfl (hb hby at_64) rfl ?_
    refine XS.sipush X0.here hx rfl (hb hby at_65) ?_
    show Steps p.tables e below (s₁.setTop (mkF m 68 #[.val (.int p0), .val (.int p1), .val (.int p2), .val (.int p3), .val (.int p4), .val (.int p5), .val (.long wa), .second, .val (.long wb), .second, .val (.int (0 : Int32)), .val (.int (1 : Int32)), .val (.long ra), .second, .unset, .unset, .unset, .unset, .unset, .unset, .unset, .unset, .unset] [(.int (1024 : Int32)), (.int p3)])) _
    refine iremM (g := (mkF m 68 #[.val (.int p0), .val (.int p1), .val (.int p2), .val (.int p3), .val (.int p4), .val (.int p5), .val (.long wa), .second, .val (.long wb), .second, .val (.int (0 : Int32)), .val (.int (1 : Int32)), .val (.long ra), .second, .unset, .unset, .unset, .unset, .unset, .unset, .unset, .unset, .unset] [(.int (1024 : Int32)), (.int p3)])) X0 hx rfl (hb hby at_68) rfl (by decide) ?_
    show Steps p.tables e below (s₁.setTop (mkF m 69 #[.val (.int p0), .val (.int p1), .val (.int p2), .val (.int p3), .val (.int p4), .val (.int p5), .val (.long wa), .second, .val (.long wb), .second, .val (.int (0 : Int32)), .val (.int (1 : Int32)), .val (.long ra), .second, .unset, .unset, .unset, .unset, .unset, .unset, .unset, .unset, .unset] [(.int (p3 % (1024 : Int32)))])) _
    refine XS.i2l X0.here hx rfl (hb hby at_69) rfl ?_
    show Steps p.tables e below (s₁.setTop (mkF m 70 #[.val (.int p0), .val (.int p1), .val (.int p2), .val (.int p3), .val (.int p4), .val (.int p5), .val (.long wa), .second, .val (.long wb), .second, .val (.int (0 : Int32)), .val (.int (1 : Int32)), .val (.long ra), .second, .unset, .unset, .unset, .unset, .unset, .unset, .unset, .unset, .unset] [(.long ((p3 % (1024 : Int32)).toInt64))])) _
    rw [hv69]
    show Steps p.tables e below (s₁.setTop (mkF m 70 #[.val (.int p0), .val (.int p1), .val (.int p2), .val (.int p3), .val (.int p4), .val (.int p5), .val (.long wa), .second, .val (.long wb), .second, .val (.int (0 : Int32)), .val (.int (1 : Int32)), .val (.long ra), .second, .unset, .unset, .unset, .unset, .unset, .unset, .unset, .unset, .unset] [(.long rb)])) _
    refine XS.lstore X0.here hx rfl (hb hby at_70) rfl (l' := #[.val (.int p0), .val (.int p1), .val (.int p2), .val (.int p3), .val (.int p4), .val (.int p5), .val (.long wa), .second, .val (.long wb), .second, .val (.int (0 : Int32)), .val (.int (1 : Int32)), .val (.long ra), .second, .val (.long rb), .second, .unset, .unset, .unset, .unset, .unset, .unset, .unset]) rfl ?_
    refine st1 _ ?_
    show Steps p.tables e below (T1.setTop (mkF m 75 #[.val (.int p0), .val (.int p1), .val (.int p2), .val (.int p3), .val (.int p4), .val (.int p5), .val (.long wa), .second, .val (.long wb), .second, .val (.int (0 : Int32)), .val (.int (1 : Int32)), .val (.long ra), .second, .val (.long rb), .second, .unset, .unset, .unset, .unset, .unset, .unset, .unset] [(.ref b1)])) _
    refine XS.dup X1.here hx rfl (hb hby at_75) rfl rfl ?_
    show Steps p.tables e below (T1.setTop (mkF m 76 #[.val (.int p0), .val (.int p1), .val (.int p2), .val (.int p3), .val (.int p4), .val (.int p5), .val (.long wa), .second, .val (.long wb), .second, .val (.int (0 : Int32)), .val (.int (1 : Int32)), .val (.long ra), .second, .val (.long rb), .second, .unset, .unset, .unset, .unset, .unset, .unset, .unset] [(.ref b1), (.ref b1)])) _
    refine st2.trans ?_
    show Steps p.tables e below (T2.setTop (mkF m 79 #[.val (.int p0), .val (.int p1), .val (.int p2), .val (.int p3), .val (.int p4), .val (.int p5), .val (.long wa), .second, .val (.long wb), .second, .val (.int (0 : Int32)), .val (.int (1 : Int32)), .val (.long ra), .second, .val (.long rb), .second, .unset, .unset, .unset, .unset, .unset, .unset, .unset] [(.ref b1)])) _
    refine XS.astore X2.here hx rfl (hb hby at_79) rfl rfl (l' := #[.val (.int p0), .val (.int p1), .val (.int p2), .val (.int p3), .val (.int p4), .val (.int p5), .val (.long wa), .second, .val (.long wb), .second, .val (.int (0 : Int32)), .val (.int (1 : Int32)), .val (.long ra), .second, .val (.long rb), .second, .val (.ref b1), .unset, .unset, .unset, .unset, .unset, .unset]) rfl ?_
    refine XS.iload X2.here hx rfl (hb hby at_81) rfl ?_
    refine XS.ifYes X2.here hx rfl (pc0 := 83) (pc' := 102) rfl (hb hby at_83) rfl ((if0 _ _).trans (teq (by decide : (0 : Int32) = (0 : Int32))).1) (by decide) (by decide) ?_
    refine XS.iload X2.here hx rfl (hb hby at_102) rfl ?_
    refine XS.ifNo X2.here hx rfl (hb hby at_104) rfl ((if0 _ _).trans (feq (by decide : ¬ ((1 : Int32) = (0 : Int32)))).1) ?_
    show Steps p.tables e below (T2.setTop (mkF m 107 #[.val (.int p0), .val (.int p1), .val (.int p2), .val (.int p3), .val (.int p4), .val (.int p5), .val (.long wa), .second, .val (.long wb), .second, .val (.int (0 : Int32)), .val (.int (1 : Int32)), .val (.long ra), .second, .val (.long rb), .second, .val (.ref b1), .unset, .unset, .unset, .unset, .unset, .unset] [])) _
    refine XS.aload X2.here hx rfl (hb hby at_107) rfl rfl ?_
    refine XS.lload X2.here hx rfl (hb hby at_109) rfl ?_
    refine XS.l2dS X2.here hx rfl (hb hby at_111) rfl (v := (FP.l2d wb)) rfl ?_
    refine XS.lload X2.here hx rfl (hb hby at_112) rfl ?_
    refine XS.iloadN X2.here hx rfl (hb hby at_114) rfl ?_
    refine XS.i2l X2.here hx rfl (hb hby at_115) rfl ?_
    show Steps p.tables e below (T2.setTop (mkF m 116 #[.val (.int p0), .val (.int p1), .val (.int p2), .val (.int p3), .val (.int p4), .val (.int p5), .val (.long wa), .second, .val (.long wb), .second, .val (.int (0 : Int32)), .val (.int (1 : Int32)), .val (.long ra), .second, .val (.long rb), .second, .val (.ref b1), .unset, .unset, .unset, .unset, .unset, .unset] [(.long (p1.toInt64)), (.long rb), (.double (FP.l2d wb)), (.ref b1)])) _
    refine XS.lmul X2.here hx rfl (hb hby at_116) rfl ?_
    show Steps p.tables e below (T2.setTop (mkF m 117 #[.val (.int p0), .val (.int p1), .val (.int p2), .val (.int p3), .val (.int p4), .val (.int p5), .val (.long wa), .second, .val (.long wb), .second, .val (.int (0 : Int32)), .val (.int (1 : Int32)), .val (.long ra), .second, .val (.long rb), .second, .val (.ref b1), .unset, .unset, .unset, .unset, .unset, .unset] [(.long (rb * (p1.toInt64))), (.double (FP.l2d wb)), (.ref b1)])) _
    rw [hv116]
    show Steps p.tables e below (T2.setTop (mkF m 117 #[.val (.int p0), .val (.int p1), .val (.int p2), .val (.int p3), .val (.int p4), .val (.int p5), .val (.long wa), .second, .val (.long wb), .second, .val (.int (0 : Int32)), .val (.int (1 : Int32)), .val (.long ra), .second, .val (.long rb), .second, .val (.ref b1), .unset, .unset, .unset, .unset, .unset, .unset] [(.long xb), (.double (FP.l2d wb)), (.ref b1)])) _
    refine XS.l2dS X2.here hx rfl (hb hby at_117) rfl (v := (FP.l2d xb)) rfl ?_
    refine XS.iloadN X2.here hx rfl (hb hby at_118) rfl ?_
    refine XS.i2l X2.here hx rfl (hb hby at_119) rfl ?_
    refine st3.trans ?_
    show Steps p.tables e below (T3.setTop (mkF m 123 #[.val (.int p0), .val (.int p1), .val (.int p2), .val (.int p3), .val (.int p4), .val (.int p5), .val (.long wa), .second, .val (.long wb), .second, .val (.int (0 : Int32)), .val (.int (1 : Int32)), .val (.long ra), .second, .val (.long rb), .second, .val (.ref b1), .unset, .unset, .unset, .unset, .unset, .unset] [])) _
    refine XS.lconst X3.here hx rfl (hb hby at_123) ?_
    refine XS.lstore X3.here hx rfl (hb hby at_124) rfl (l' := #[.val (.int p0), .val (.int p1), .val (.int p2), .val (.int p3), .val (.int p4), .val (.int p5), .val (.long wa), .second, .val (.long wb), .second, .val (.int (0 : Int32)), .val (.int (1 : Int32)), .val (.long ra), .second, .val (.long rb), .second, .val (.ref b1), .val (.long (0 : Int64)), .second, .unset, .unset, .unset, .unset]) rfl ?_
    refine XS.lconst X3.here hx rfl (hb hby at_126) ?_
    refine XS.lstore X3.here hx rfl (hb hby at_127) rfl (l' := #[.val (.int p0), .val (.int p1), .val (.int p2), .val (.int p3), .val (.int p4), .val (.int p5), .val (.long wa), .second, .val (.long wb), .second, .val (.int (0 : Int32)), .val (.int (1 : Int32)), .val (.long ra), .second, .val (.long rb), .second, .val (.ref b1), .val (.long (0 : Int64)), .second, .val (.long (0 : Int64)), .second, .unset, .unset]) rfl ?_
    refine XS.iload X3.here hx rfl (hb hby at_129) rfl ?_
    refine XS.ifYes X3.here hx rfl (pc0 := 131) (pc' := 155) rfl (hb hby at_131) rfl ((if0 _ _).trans (teq (by decide : (0 : Int32) = (0 : Int32))).1) (by decide) (by decide) ?_
    show Steps p.tables e below (T3.setTop (mkF m 155 #[.val (.int p0), .val (.int p1), .val (.int p2), .val (.int p3), .val (.int p4), .val (.int p5), .val (.long wa), .second, .val (.long wb), .second, .val (.int (0 : Int32)), .val (.int (1 : Int32)), .val (.long ra), .second, .val (.long rb), .second, .val (.ref b1), .val (.long (0 : Int64)), .second, .val (.long (0 : Int64)), .second, .unset, .unset] [])) _
    refine XS.iload X3.here hx rfl (hb hby at_155) rfl ?_
    refine XS.ifNo X3.here hx rfl (hb hby at_157) rfl ((if0 _ _).trans (feq (by decide : ¬ ((1 : Int32) = (0 : Int32)))).1) ?_
    refine XS.iloadN X3.here hx rfl (hb hby at_160) rfl ?_
    refine XS.ifYes X3.here hx rfl (pc0 := 161) (pc' := 181) rfl (hb hby at_161) rfl ((if0 _ _).trans (flt hc161).2.2.2) (by decide) (by decide) ?_
    refine XS.aload X3.here hx rfl (hb hby at_181) rfl rfl ?_
    refine st16.trans ?_
    show Steps p.tables e below (T16.setTop (mkF m 186 #[.val (.int p0), .val (.int p1), .val (.int p2), .val (.int p3), .val (.int p4), .val (.int p5), .val (.long wa), .second, .val (.long wb), .second, .val (.int (0 : Int32)), .val (.int (1 : Int32)), .val (.long ra), .second, .val (.long rb), .second, .val (.ref b1), .val (.long (0 : Int64)), .second, .val (.long (0 : Int64)), .second, .unset, .unset] [(.double (9221120237041090560 : UInt64))])) _
    refine XS.dstore X16.here hx rfl (hb hby at_186) rfl (l' := #[.val (.int p0), .val (.int p1), .val (.int p2), .val (.int p3), .val (.int p4), .val (.int p5), .val (.long wa), .second, .val (.long wb), .second, .val (.int (0 : Int32)), .val (.int (1 : Int32)), .val (.long ra), .second, .val (.long rb), .second, .val (.ref b1), .val (.long (0 : Int64)), .second, .val (.long (0 : Int64)), .second, .val (.double (9221120237041090560 : UInt64)), .second]) rfl ?_
    refine XS.lload X16.here hx rfl (hb hby at_188) rfl ?_
    refine XS.lconst X16.here hx rfl (hb hby at_190) ?_
    refine XS.lcmp X16.here hx rfl (hb hby at_191) rfl ?_
    show Steps p.tables e below (T16.setTop (mkF m 192 #[.val (.int p0), .val (.int p1), .val (.int p2), .val (.int p3), .val (.int p4), .val (.int p5), .val (.long wa), .second, .val (.long wb), .second, .val (.int (0 : Int32)), .val (.int (1 : Int32)), .val (.long ra), .second, .val (.long rb), .second, .val (.ref b1), .val (.long (0 : Int64)), .second, .val (.long (0 : Int64)), .second, .val (.double (9221120237041090560 : UInt64)), .second] [(.int (lcmpW (0 : Int64) (0 : Int64)))])) _
    rw [show (lcmpW (0 : Int64) (0 : Int64)) = (0 : Int32) by decide]
    show Steps p.tables e below (T16.setTop (mkF m 192 #[.val (.int p0), .val (.int p1), .val (.int p2), .val (.int p3), .val (.int p4), .val (.int p5), .val (.long wa), .second, .val (.long wb), .second, .val (.int (0 : Int32)), .val (.int (1 : Int32)), .val (.long ra), .second, .val (.long rb), .second, .val (.ref b1), .val (.long (0 : Int64)), .second, .val (.long (0 : Int64)), .second, .val (.double (9221120237041090560 : UInt64)), .second] [(.int (0 : Int32))])) _
    refine XS.ifNo X16.here hx rfl (hb hby at_192) rfl ((if0 _ _).trans (teq (by decide : (0 : Int32) = (0 : Int32))).2) ?_
    show Steps p.tables e below (T16.setTop (mkF m 195 #[.val (.int p0), .val (.int p1), .val (.int p2), .val (.int p3), .val (.int p4), .val (.int p5), .val (.long wa), .second, .val (.long wb), .second, .val (.int (0 : Int32)), .val (.int (1 : Int32)), .val (.long ra), .second, .val (.long rb), .second, .val (.ref b1), .val (.long (0 : Int64)), .second, .val (.long (0 : Int64)), .second, .val (.double (9221120237041090560 : UInt64)), .second] [])) _
    refine XS.dload X16.here hx rfl (hb hby at_195) rfl ?_
    refine XS.dload X16.here hx rfl (hb hby at_197) rfl ?_
    refine XS.dcmpS X16.here hx rfl (hb hby at_199) rfl (v := (-1 : Int32)) hd199 ?_
    refine XS.ifNo X16.here hx rfl (hb hby at_200) rfl ((if0 _ _).trans (feq (by decide : ¬ ((-1 : Int32) = (0 : Int32)))).1) ?_
    refine XS.iconst X16.here hx rfl (hb hby at_203) ?_
    refine XS.goto X16.here hx rfl (pc0 := 204) (pc' := 208) rfl (hb hby at_204) (by decide) (by decide) ?_
    show Steps p.tables e below (T16.setTop (mkF m 208 #[.val (.int p0), .val (.int p1), .val (.int p2), .val (.int p3), .val (.int p4), .val (.int p5), .val (.long wa), .second, .val (.long wb), .second, .val (.int (0 : Int32)), .val (.int (1 : Int32)), .val (.long ra), .second, .val (.long rb), .second, .val (.ref b1), .val (.long (0 : Int64)), .second, .val (.long (0 : Int64)), .second, .val (.double (9221120237041090560 : UInt64)), .second] [(.int (1 : Int32))])) _
    exact retN X16 hx (t := .boolean) Bd.returns (by simp) (hb hby at_208) hr
  · show Q0 n0 _ T16.heap _
    rw [e16]
    exact ⟨rfl, N16⟩
set_option maxRecDepth 65536 in
set_option maxHeartbeats 40000000 in
theorem rm0_po (l : Launch) (Z : State) (a0 : Array Value) (hw : ∀ d ∈ tables_1, d.before a0 Z = true) (ws : List Jvm.Cond) (p0 : Int32) (p1 : Int32) (p2 : Int32) (p3 : Int32) (p4 : Int32) (p5 : Int32) (ob1 : UInt64) (pb1 : UInt64) (w1 : UInt64) (so1 : UInt64) (sp1 : UInt64) (oa1 : UInt64) (pa1 : UInt64) (ma1 : UInt64) (mb1 : UInt64) (mc1 : UInt64) (pw1 : UInt64) (wr1 : UInt64) (wa : Int64) (wb : Int64) (ra : Int64) (rb : Int64) (xa : Int64) (pA : Int64) (nA : Int64) (h0 : Heap) (n0 : Nat) (Z0 : n0 ≤ h0.size) (hv8 : (((p4 &&& (1023 : Int32)) + (1 : Int32)).toInt64) = wa) (hv19 : (((p5 &&& (1023 : Int32)) + (1 : Int32)).toInt64) = wb) (hc29 : ¬ ((((p4.toUInt32 >>> ((10 : Int32) &&& 31).toUInt32).toInt32) &&& (3 : Int32)) = (0 : Int32))) (hc46 : (((p5.toUInt32 >>> ((10 : Int32) &&& 31).toUInt32).toInt32) &&& (3 : Int32)) = (0 : Int32)) (hv61 : ((p2 % (1024 : Int32)).toInt64) = ra) (hv69 : ((p3 % (1024 : Int32)).toInt64) = rb) (hv95 : (ra * (p0.toInt64)) = xa) (nn5_99 : Jvm.Free.Fl.NoNaN64 (FP.dsub (FP.l2d xa) (0 : UInt64))) (hq5_99 : (FP.dsub (FP.l2d xa) (0 : UInt64)) = ob1) (nn15_99 : Jvm.Free.Fl.NoNaN64 (FP.dsub (FP.l2d (p0.toInt64)) (0 : UInt64))) (hq15_99 : (FP.dsub (FP.l2d (p0.toInt64)) (0 : UInt64)) = pb1) (nn34_99 : Jvm.Free.Fl.NoNaN64 (FP.dadd (0 : UInt64) (FP.l2d wa))) (hq34_99 : (FP.dadd (0 : UInt64) (FP.l2d wa)) = w1) (nn45_99 : Jvm.Free.Fl.NoNaN64 (FP.dmul (FP.l2d wa) (FP.l2d xa))) (nn46_99 : Jvm.Free.Fl.NoNaN64 (FP.dadd (0 : UInt64) (FP.dmul (FP.l2d wa) (FP.l2d xa)))) (hq46_99 : (FP.dadd (0 : UInt64) (FP.dmul (FP.l2d wa) (FP.l2d xa))) = so1) (nn59_99 : Jvm.Free.Fl.NoNaN64 (FP.dmul (FP.l2d wa) (FP.l2d (p0.toInt64)))) (nn60_99 : Jvm.Free.Fl.NoNaN64 (FP.dadd (0 : UInt64) (FP.dmul (FP.l2d wa) (FP.l2d (p0.toInt64))))) (hq60_99 : (FP.dadd (0 : UInt64) (FP.dmul (FP.l2d wa) (FP.l2d (p0.toInt64)))) = sp1) (nn21_66_99 : Jvm.Free.Fl.NoNaN64 (FP.ddiv so1 w1)) (nn69_99 : Jvm.Free.Fl.NoNaN64 (FP.dsub (FP.l2d xa) (FP.ddiv so1 w1))) (hq69_99 : (FP.dsub (FP.l2d xa) (FP.ddiv so1 w1)) = oa1) (nn21_76_99 : Jvm.Free.Fl.NoNaN64 (FP.ddiv sp1 w1)) (nn79_99 : Jvm.Free.Fl.NoNaN64 (FP.dsub (FP.l2d (p0.toInt64)) (FP.ddiv sp1 w1))) (hq79_99 : (FP.dsub (FP.l2d (p0.toInt64)) (FP.ddiv sp1 w1)) = pa1) (nn90_99 : Jvm.Free.Fl.NoNaN64 (FP.dmul (FP.l2d wa) ob1)) (nn93_99 : Jvm.Free.Fl.NoNaN64 (FP.dmul (FP.dmul (FP.l2d wa) ob1) oa1)) (nn94_99 : Jvm.Free.Fl.NoNaN64 (FP.dadd (0 : UInt64) (FP.dmul (FP.dmul (FP.l2d wa) ob1) oa1))) (hq94_99 : (FP.dadd (0 : UInt64) (FP.dmul (FP.dmul (FP.l2d wa) ob1) oa1)) = ma1) (nn106_99 : Jvm.Free.Fl.NoNaN64 (FP.dmul (FP.l2d wa) pb1)) (nn109_99 : Jvm.Free.Fl.NoNaN64 (FP.dmul (FP.dmul (FP.l2d wa) pb1) pa1)) (nn110_99 : Jvm.Free.Fl.NoNaN64 (FP.dadd (0 : UInt64) (FP.dmul (FP.dmul (FP.l2d wa) pb1) pa1))) (hq110_99 : (FP.dadd (0 : UInt64) (FP.dmul (FP.dmul (FP.l2d wa) pb1) pa1)) = mb1) (nn122_99 : Jvm.Free.Fl.NoNaN64 (FP.dmul (FP.l2d wa) ob1)) (nn125_99 : Jvm.Free.Fl.NoNaN64 (FP.dmul (FP.dmul (FP.l2d wa) ob1) pa1)) (nn126_99 : Jvm.Free.Fl.NoNaN64 (FP.dadd (0 : UInt64) (FP.dmul (FP.dmul (FP.l2d wa) ob1) pa1))) (hq126_99 : (FP.dadd (0 : UInt64) (FP.dmul (FP.dmul (FP.l2d wa) ob1) pa1)) = mc1) (hc134_99 : (0 : Int32) < (lcmpW (p0.toInt64) (0 : Int64))) (nn143_99 : Jvm.Free.Fl.NoNaN64 (FP.dadd (0 : UInt64) (FP.l2d wa))) (hq143_99 : (FP.dadd (0 : UInt64) (FP.l2d wa)) = pw1) (nn157_99 : Jvm.Free.Fl.NoNaN64 (FP.ddiv (FP.l2d xa) (FP.l2d (p0.toInt64)))) (nn158_99 : Jvm.Free.Fl.NoNaN64 (FP.dmul (FP.l2d wa) (FP.ddiv (FP.l2d xa) (FP.l2d (p0.toInt64))))) (nn159_99 : Jvm.Free.Fl.NoNaN64 (FP.dadd (0 : UInt64) (FP.dmul (FP.l2d wa) (FP.ddiv (FP.l2d xa) (FP.l2d (p0.toInt64)))))) (hq159_99 : (FP.dadd (0 : UInt64) (FP.dmul (FP.l2d wa) (FP.ddiv (FP.l2d xa) (FP.l2d (p0.toInt64))))) = wr1) (hc135 : (0 : Int32) < p0) (hv142 : ((0 : Int64) + wa) = pA) (hv152 : ((0 : Int64) + (wa * ra)) = nA) (hd5_183 : (cmpValue (FP.dcmp pw1 (0 : UInt64)) .l) = (1 : Int32)) (nn23_183 : Jvm.Free.Fl.NoNaN64 (FP.ddiv wr1 pw1)) (hc192 : ¬ ((lcmpW pA (0 : Int64)) = (0 : Int32))) (nn217 : Jvm.Free.Fl.NoNaN64 (FP.ddiv (FP.l2d nA) (FP.l2d pA))) (hd218 : (cmpValue (FP.dcmp (FP.ddiv wr1 pw1) (FP.ddiv (FP.l2d nA) (FP.l2d pA))) .l) = (0 : Int32)) :
    MetFree l x (head1 (Jvm.Cond.code x code maxLocals ret :: ws) room_1) (fun a U => a = #[(.int p0), (.int p1), (.int p2), (.int p3), (.int p4), (.int p5)] ∧ Z.Warmed39 U.vm ∧ U.heap = h0) (fun _ _ _ _ _ => True) (fun _ U o U' => ∃ v L, o = .returned v ∧ Q0 n0 v U'.heap L ∧ FrameEnd U o U' L room_1.cells room_1.slots) := by
  refine MetFree.of_bodySF (plainFor_of_name pn_com_example_arrivals_arrivals_core_SequenceStatisticsExpectedRatioPinLaw) hisR ?_
  intro p e s m args below meth c s₁ Bd hml0 hP hK
  obtain ⟨rfl, hZ, hh⟩ := hP
  have hx := Bd.exec
  have hby := Bd.bytes
  have hml : c.maxLocals = 23 := hml0
  have hown : s.vm.findClass "com/example/arrivals/arrivals/core/SequenceStatisticsExpectedRatioPinLaw" = some m.cls := findClass_of_methodNamed Bd.named
  have hnm := (name_of_methodNamed Bd.named Bd.method).1
  have X0 : Stand p l e room_1 s m #[(.int p0), (.int p1), (.int p2), (.int p3), (.int p4), (.int p5)] below meth c s₁ [] 0 0 := Stand.of_body Bd
  have e0 : s₁.heap = h0 := by rw [← hh, Bd.state]; rfl
  have N0 := Fr.nil n0
  have pre0 : ∀ t, Steps p.tables e below (s₁.setTop (mkF m 0 #[.val (.int p0), .val (.int p1), .val (.int p2), .val (.int p3), .val (.int p4), .val (.int p5), .unset, .unset, .unset, .unset, .unset, .unset, .unset, .unset, .unset, .unset, .unset, .unset, .unset, .unset, .unset, .unset, .unset] [])) t → Steps p.tables e below (s₁.setTop (entryFrame m #[(.int p0), (.int p1), (.int p2), (.int p3), (.int p4), (.int p5)] maxLocals)) t := fun t k => castTop (ef_0_IIIIII m p0 p1 p2 p3 p4 p5) k
  obtain ⟨T1, h1, X1, e1, E1, A1, D1, -, st1⟩ := newO X0 hx hZ hown (hw _ (List.mem_of_getElem? (i := 0) rfl)) (hw _ (List.mem_of_getElem? (i := 1) rfl)) (hw _ (List.mem_of_getElem? (i := 2) rfl)) e0 (g := (mkF m 72 #[.val (.int p0), .val (.int p1), .val (.int p2), .val (.int p3), .val (.int p4), .val (.int p5), .val (.long wa), .second, .val (.long wb), .second, .val (.int (1 : Int32)), .val (.int (0 : Int32)), .val (.long ra), .second, .val (.long rb), .second, .unset, .unset, .unset, .unset, .unset, .unset, .unset] [])) rfl (hb hby at_72) (by decide) (by decide)
  obtain ⟨b1, g1⟩ : ∃ z, z = h0.size := ⟨_, rfl⟩
  rw [← g1] at A1 D1 st1
  have g_b1 : n0 ≤ b1 := Nat.le_trans Z0 (Nat.le_of_eq g1.symm)
  have sz_b1 : h0.size ≤ b1 := Nat.le_trans (Keep.refl h0 []).1 (Nat.le_of_eq g1.symm)
  have K1 : Keep h0 h1 [] := (Keep.refl h0 []).ext E1
  have Zs1 := Nat.le_trans Z0 E1.1
  have F1_positiveWeight : Fld Z h1 b1 "com/example/arrivals/arrivals/core/SequenceStatistics" "positiveWeight" "D" (.double (0 : UInt64)) := D1 (Or.inl (hw _ (List.mem_of_getElem? (i := 15) rfl))) (ty := .double) (by decide)
  have F1_count : Fld Z h1 b1 "com/example/arrivals/arrivals/core/SequenceStatistics" "count" "J" (.long (0 : Int64)) := D1 (Or.inl (hw _ (List.mem_of_getElem? (i := 28) rfl))) (ty := .long) (by decide)
  have F1_weight : Fld Z h1 b1 "com/example/arrivals/arrivals/core/SequenceStatistics" "weight" "D" (.double (0 : UInt64)) := D1 (Or.inl (hw _ (List.mem_of_getElem? (i := 35) rfl))) (ty := .double) (by decide)
  have F1_sumOnline : Fld Z h1 b1 "com/example/arrivals/arrivals/core/SequenceStatistics" "sumOnline" "D" (.double (0 : UInt64)) := D1 (Or.inl (hw _ (List.mem_of_getElem? (i := 37) rfl))) (ty := .double) (by decide)
  have F1_sumOptimum : Fld Z h1 b1 "com/example/arrivals/arrivals/core/SequenceStatistics" "sumOptimum" "D" (.double (0 : UInt64)) := D1 (Or.inl (hw _ (List.mem_of_getElem? (i := 39) rfl))) (ty := .double) (by decide)
  have F1_comomentOnline : Fld Z h1 b1 "com/example/arrivals/arrivals/core/SequenceStatistics" "comomentOnline" "D" (.double (0 : UInt64)) := D1 (Or.inl (hw _ (List.mem_of_getElem? (i := 41) rfl))) (ty := .double) (by decide)
  have F1_comomentOptimum : Fld Z h1 b1 "com/example/arrivals/arrivals/core/SequenceStatistics" "comomentOptimum" "D" (.double (0 : UInt64)) := D1 (Or.inl (hw _ (List.mem_of_getElem? (i := 43) rfl))) (ty := .double) (by decide)
  have F1_comomentBoth : Fld Z h1 b1 "com/example/arrivals/arrivals/core/SequenceStatistics" "comomentBoth" "D" (.double (0 : UInt64)) := D1 (Or.inl (hw _ (List.mem_of_getElem? (i := 45) rfl))) (ty := .double) (by decide)
  have F1_zeroWeight : Fld Z h1 b1 "com/example/arrivals/arrivals/core/SequenceStatistics" "zeroWeight" "D" (.double (0 : UInt64)) := D1 (Or.inl (hw _ (List.mem_of_getElem? (i := 47) rfl))) (ty := .double) (by decide)
  have F1_weightedRatios : Fld Z h1 b1 "com/example/arrivals/arrivals/core/SequenceStatistics" "weightedRatios" "D" (.double (0 : UInt64)) := D1 (Or.inl (hw _ (List.mem_of_getElem? (i := 49) rfl))) (ty := .double) (by decide)
  obtain ⟨_, _, ⟨T2, L2, k2, n2⟩, -, X2, ⟨Lc2, hQ2, l2, y2, z2⟩, st2⟩ := X1.specialBack hx (y := (⟨"com/example/arrivals/arrivals/core/SequenceStatistics", "<init>", "()V"⟩ : MethodName)) rfl hown (mvT hZ (hw _ (List.mem_of_getElem? (i := 3) rfl))) (mvT hZ (hw _ (List.mem_of_getElem? (i := 4) rfl))) (mvT hZ (hw _ (List.mem_of_getElem? (i := 5) rfl))) (by decide) (backOf (W := 1) (rm1 l Z a0 hw [] b1 h1 n0 Zs1 A1) hZ (hw _ (List.mem_of_getElem? (i := 5) rfl)) (hw _ (List.mem_of_getElem? (i := 2) rfl)) (by decide) (by decide)) (g := (mkF m 76 #[.val (.int p0), .val (.int p1), .val (.int p2), .val (.int p3), .val (.int p4), .val (.int p5), .val (.long wa), .second, .val (.long wb), .second, .val (.int (1 : Int32)), .val (.int (0 : Int32)), .val (.long ra), .second, .val (.long rb), .second, .unset, .unset, .unset, .unset, .unset, .unset, .unset] [(.ref b1), (.ref b1)])) rfl (by rw [hml]; rfl) (Steps.refl _) (a := b1) (argsL := []) (rest := [(.ref b1)]) (lenOf pd_1 rfl) rfl (by show 2 * 0 + _ ≤ _; exact Nat.le_of_eq rfl) (hb hby at_76) (fun _ _ => ⟨rfl, e1, (by decide : 1 + 0 ≤ _), (by decide : 10 + 0 ≤ _)⟩)
  dsimp only [Pt.U, Pt.locs, Pt.cells, Pt.slots] at X2 l2 y2 z2 st2 hQ2
  subst l2 y2 z2
  obtain ⟨rfl, N2q, eh2⟩ := hQ2
  have N2 := Fr.app N0 N2q
  have e2 : T2.heap = h1 := eh2
  obtain ⟨cq3, kq3, q3a, q3b, q3c⟩ := isOf hZ e2 A1
  obtain ⟨_, _, ⟨T3, L3, k3, n3⟩, -, X3, ⟨Lc3, hQ3, l3, y3, z3⟩, st3⟩ := X2.virtualBack hx (y := (⟨"com/example/arrivals/arrivals/core/SequenceStatistics", "add", "(DDJ)V"⟩ : MethodName)) (z := (⟨"com/example/arrivals/arrivals/core/SequenceStatistics", "add", "(DDJ)V"⟩ : MethodName)) hown (mvT hZ (hw _ (List.mem_of_getElem? (i := 17) rfl))) (mvT hZ (hw _ (List.mem_of_getElem? (i := 18) rfl))) (notFace_of_selects (args := #[]) (mvT hZ (hw _ (List.mem_of_getElem? (i := 20) rfl)))) (mvT hZ (hw _ (List.mem_of_getElem? (i := 20) rfl))) (mvT hZ (hw _ (List.mem_of_getElem? (i := 19) rfl))) (by decide) (backOf (W := 0) (rm4_0p l Z a0 hw [] b1 (FP.l2d wa) (FP.l2d xa) (p0.toInt64) ob1 pb1 w1 so1 sp1 oa1 pa1 ma1 mb1 mc1 pw1 wr1 h1 n0 Zs1 A1 g_b1 F1_count F1_weight F1_sumOnline F1_sumOptimum F1_comomentOnline F1_comomentOptimum F1_comomentBoth F1_positiveWeight F1_weightedRatios F1_zeroWeight nn5_99 hq5_99 nn15_99 hq15_99 nn34_99 hq34_99 nn45_99 nn46_99 hq46_99 nn59_99 nn60_99 hq60_99 nn21_66_99 nn69_99 hq69_99 nn21_76_99 nn79_99 hq79_99 nn90_99 nn93_99 nn94_99 hq94_99 nn106_99 nn109_99 nn110_99 hq110_99 nn122_99 nn125_99 nn126_99 hq126_99 hc134_99 nn143_99 hq143_99 nn157_99 nn158_99 nn159_99 hq159_99) hZ (hw _ (List.mem_of_getElem? (i := 21) rfl)) (hw _ (List.mem_of_getElem? (i := 2) rfl)) (by decide) (by decide)) q3a q3c (g := (mkF m 99 #[.val (.int p0), .val (.int p1), .val (.int p2), .val (.int p3), .val (.int p4), .val (.int p5), .val (.long wa), .second, .val (.long wb), .second, .val (.int (1 : Int32)), .val (.int (0 : Int32)), .val (.long ra), .second, .val (.long rb), .second, .val (.ref b1), .unset, .unset, .unset, .unset, .unset, .unset] [(.long (p0.toInt64)), (.double (FP.l2d xa)), (.double (FP.l2d wa)), (.ref b1)])) rfl (by rw [hml]; rfl) (Steps.refl _) (argsL := [(.double (FP.l2d wa)), (.double (FP.l2d xa)), (.long (p0.toInt64))]) (rest := []) (lenOf pd_2 rfl) rfl (by show 2 * 0 + _ ≤ _; exact Nat.le_of_eq rfl) (hb hby at_99) (fun _ _ => ⟨rfl, e2, (by decide : 1 + 0 ≤ _), (by decide : 10 + 0 ≤ _)⟩)
  dsimp only [Pt.U, Pt.locs, Pt.cells, Pt.slots] at X3 l3 y3 z3 st3 hQ3
  subst l3 y3 z3
  obtain ⟨rfl, N3q, K3q, f4, f5, f6, f7, f8, f9, f10, f11, f12, f13, f14⟩ := hQ3
  have N3 := Fr.app N2 N3q
  have f15 := A1.keep K3q
  have K3 : Keep h0 T3.heap [] := K1.trans K3q (own_allS (Or.inr sz_b1) own_all0)
  have Zs3 := Nat.le_trans Zs1 K3q.1
  obtain ⟨cq16, kq16, q16a, q16b, q16c⟩ := isOf hZ rfl f4
  obtain ⟨_, _, ⟨T16, L16, k16, n16⟩, -, X16, ⟨Lc16, hQ16, l16, y16, z16⟩, st16⟩ := X3.virtualBack hx (y := (⟨"com/example/arrivals/arrivals/core/SequenceStatistics", "expectedRatio", "()D"⟩ : MethodName)) (z := (⟨"com/example/arrivals/arrivals/core/SequenceStatistics", "expectedRatio", "()D"⟩ : MethodName)) hown (mvT hZ (hw _ (List.mem_of_getElem? (i := 9) rfl))) (mvT hZ (hw _ (List.mem_of_getElem? (i := 10) rfl))) (notFace_of_selects (args := #[]) (mvT hZ (hw _ (List.mem_of_getElem? (i := 12) rfl)))) (mvT hZ (hw _ (List.mem_of_getElem? (i := 12) rfl))) (mvT hZ (hw _ (List.mem_of_getElem? (i := 11) rfl))) (by decide) (backOf (W := 0) (rm3n l Z a0 hw [] b1 pw1 wr1 T3.heap n0 Zs3 f12 f13 hd5_183 nn23_183) hZ (hw _ (List.mem_of_getElem? (i := 13) rfl)) (hw _ (List.mem_of_getElem? (i := 2) rfl)) (by decide) (by decide)) q16a q16c (g := (mkF m 183 #[.val (.int p0), .val (.int p1), .val (.int p2), .val (.int p3), .val (.int p4), .val (.int p5), .val (.long wa), .second, .val (.long wb), .second, .val (.int (1 : Int32)), .val (.int (0 : Int32)), .val (.long ra), .second, .val (.long rb), .second, .val (.ref b1), .val (.long pA), .second, .val (.long nA), .second, .unset, .unset] [(.ref b1)])) rfl (by rw [hml]; rfl) (Steps.refl _) (argsL := []) (rest := []) (lenOf pd_0 rfl) rfl (by show 2 * 0 + _ ≤ _; exact Nat.le_of_eq rfl) (hb hby at_183) (fun _ _ => ⟨rfl, rfl, (by decide : 1 + 0 ≤ _), (by decide : 10 + 0 ≤ _)⟩)
  dsimp only [Pt.U, Pt.locs, Pt.cells, Pt.slots] at X16 l16 y16 z16 st16 hQ16
  subst l16 y16 z16
  obtain ⟨rfl, N16q, eh16⟩ := hQ16
  have N16 := Fr.app N3 N16q
  have e16 : T16.heap = T3.heap := eh16
  obtain ⟨fs, hr, hrun, hended, hW, hsame⟩ := X16.leave (v := some (.int (1 : Int32))) (fun h => by rw [Bd.returns] at h; cases h)
  refine ⟨_, _, pre0 _ ?_, hrun, hended, _, _, rfl, ?_, ⟨_, rfl⟩, hW, hsame.mono (by decide) (by decide)⟩
  · show Steps p.tables e below (s₁.setTop (mkF m 0 #[.val (.int p0), .val (.int p1), .val (.int p2), .val (.int p3), .val (.int p4), .val (.int p5), .unset, .unset, .unset, .unset, .unset, .unset, .unset, .unset, .unset, .unset, .unset, .unset, .unset, .unset, .unset, .unset, .unset] [])) _
    refine XS.iload X0.here hx rfl (hb hby at_0) rfl ?_
    refine XS.sipush X0.here hx rfl (hb hby at_2) ?_
    refine XS.iand X0.here hx rfl (hb hby at_5) rfl ?_
    refine XS.iconst X0.here hx rfl (hb hby at_6) ?_
    refine XS.iadd X0.here hx rfl (hb hby at_7) rfl ?_
    show Steps p.tables e below (s₁.setTop (mkF m 8 #[.val (.int p0), .val (.int p1), .val (.int p2), .val (.int p3), .val (.int p4), .val (.int p5), .unset, .unset, .unset, .unset, .unset, .unset, .unset, .unset, .unset, .unset, .unset, .unset, .unset, .unset, .unset, .unset, .unset] [(.int ((p4 &&& (1023 : Int32)) + (1 : Int32)))])) _
    refine XS.i2l X0.here hx rfl (hb hby at_8) rfl ?_
    show Steps p.tables e below (s₁.setTop (mkF m 9 #[.val (.int p0), .val (.int p1), .val (.int p2), .val (.int p3), .val (.int p4), .val (.int p5), .unset, .unset, .unset, .unset, .unset, .unset, .unset, .unset, .unset, .unset, .unset, .unset, .unset, .unset, .unset, .unset, .unset] [(.long (((p4 &&& (1023 : Int32)) + (1 : Int32)).toInt64))])) _
    rw [hv8]
    show Steps p.tables e below (s₁.setTop (mkF m 9 #[.val (.int p0), .val (.int p1), .val (.int p2), .val (.int p3), .val (.int p4), .val (.int p5), .unset, .unset, .unset, .unset, .unset, .unset, .unset, .unset, .unset, .unset, .unset, .unset, .unset, .unset, .unset, .unset, .unset] [(.long wa)])) _
    refine XS.lstore X0.here hx rfl (hb hby at_9) rfl (l' := #[.val (.int p0), .val (.int p1), .val (.int p2), .val (.int p3), .val (.int p4), .val (.int p5), .val (.long wa), .second, .unset, .unset, .unset, .unset, .unset, .unset, .unset, .unset, .unset, .unset, .unset, .unset, .unset, .unset, .unset]) rfl ?_
    refine XS.iload X0.here hx rfl (hb hby at_11) rfl ?_
    refine XS.sipush X0.here hx rfl (hb hby at_13) ?_
    refine XS.iand X0.here hx rfl (hb hby at_16) rfl ?_
    show Steps p.tables e below (s₁.setTop (mkF m 17 #[.val (.int p0), .val (.int p1), .val (.int p2), .val (.int p3), .val (.int p4), .val (.int p5), .val (.long wa), .second, .unset, .unset, .unset, .unset, .unset, .unset, .unset, .unset, .unset, .unset, .unset, .unset, .unset, .unset, .unset] [(.int (p5 &&& (1023 : Int32)))])) _
    refine XS.iconst X0.here hx rfl (hb hby at_17) ?_
    refine XS.iadd X0.here hx rfl (hb hby at_18) rfl ?_
    refine XS.i2l X0.here hx rfl (hb hby at_19) rfl ?_
    show Steps p.tables e below (s₁.setTop (mkF m 20 #[.val (.int p0), .val (.int p1), .val (.int p2), .val (.int p3), .val (.int p4), .val (.int p5), .val (.long wa), .second, .unset, .unset, .unset, .unset, .unset, .unset, .unset, .unset, .unset, .unset, .unset, .unset, .unset, .unset, .unset] [(.long (((p5 &&& (1023 : Int32)) + (1 : Int32)).toInt64))])) _
    rw [hv19]
    show Steps p.tables e below (s₁.setTop (mkF m 20 #[.val (.int p0), .val (.int p1), .val (.int p2), .val (.int p3), .val (.int p4), .val (.int p5), .val (.long wa), .second, .unset, .unset, .unset, .unset, .unset, .unset, .unset, .unset, .unset, .unset, .unset, .unset, .unset, .unset, .unset] [(.long wb)])) _
    refine XS.lstore X0.here hx rfl (hb hby at_20) rfl (l' := #[.val (.int p0), .val (.int p1), .val (.int p2), .val (.int p3), .val (.int p4), .val (.int p5), .val (.long wa), .second, .val (.long wb), .second, .unset, .unset, .unset, .unset, .unset, .unset, .unset, .unset, .unset, .unset, .unset, .unset, .unset]) rfl ?_
    refine XS.iload X0.here hx rfl (hb hby at_22) rfl ?_
    show Steps p.tables e below (s₁.setTop (mkF m 24 #[.val (.int p0), .val (.int p1), .val (.int p2), .val (.int p3), .val (.int p4), .val (.int p5), .val (.long wa), .second, .val (.long wb), .second, .unset, .unset, .unset, .unset, .unset, .unset, .unset, .unset, .unset, .unset, .unset, .unset, .unset] [(.int p4)])) _
    refine XS.bipush X0.here hx rfl (hb hby at_24) ?_
    refine XS.iushr X0.here hx rfl (hb hby at_26) rfl ?_
    refine XS.iconst X0.here hx rfl (hb hby at_27) ?_
    refine XS.iand X0.here hx rfl (hb hby at_28) rfl ?_
    refine XS.ifNo X0.here hx rfl (hb hby at_29) rfl ((if0 _ _).trans (feq hc29).1) ?_
    refine XS.iconst X0.here hx rfl (hb hby at_32) ?_
    show Steps p.tables e below (s₁.setTop (mkF m 33 #[.val (.int p0), .val (.int p1), .val (.int p2), .val (.int p3), .val (.int p4), .val (.int p5), .val (.long wa), .second, .val (.long wb), .second, .unset, .unset, .unset, .unset, .unset, .unset, .unset, .unset, .unset, .unset, .unset, .unset, .unset] [(.int (1 : Int32))])) _
    refine XS.goto X0.here hx rfl (pc0 := 33) (pc' := 37) rfl (hb hby at_33) (by decide) (by decide) ?_
    refine XS.istore X0.here hx rfl (hb hby at_37) rfl (l' := #[.val (.int p0), .val (.int p1), .val (.int p2), .val (.int p3), .val (.int p4), .val (.int p5), .val (.long wa), .second, .val (.long wb), .second, .val (.int (1 : Int32)), .unset, .unset, .unset, .unset, .unset, .unset, .unset, .unset, .unset, .unset, .unset, .unset]) rfl ?_
    refine XS.iload X0.here hx rfl (hb hby at_39) rfl ?_
    refine XS.bipush X0.here hx rfl (hb hby at_41) ?_
    refine XS.iushr X0.here hx rfl (hb hby at_43) rfl ?_
    refine XS.iconst X0.here hx rfl (hb hby at_44) ?_
    show Steps p.tables e below (s₁.setTop (mkF m 45 #[.val (.int p0), .val (.int p1), .val (.int p2), .val (.int p3), .val (.int p4), .val (.int p5), .val (.long wa), .second, .val (.long wb), .second, .val (.int (1 : Int32)), .unset, .unset, .unset, .unset, .unset, .unset, .unset, .unset, .unset, .unset, .unset, .unset] [(.int (3 : Int32)), (.int ((p5.toUInt32 >>> ((10 : Int32) &&& 31).toUInt32).toInt32))])) _
    refine XS.iand X0.here hx rfl (hb hby at_45) rfl ?_
    refine XS.ifYes X0.here hx rfl (pc0 := 46) (pc' := 53) rfl (hb hby at_46) rfl ((if0 _ _).trans (teq hc46).1) (by decide) (by decide) ?_
    refine XS.iconst X0.here hx rfl (hb hby at_53) ?_
    refine XS.istore X0.here hx rfl (hb hby at_54) rfl (l' := #[.val (.int p0), .val (.int p1), .val (.int p2), .val (.int p3), .val (.int p4), .val (.int p5), .val (.long wa), .second, .val (.long wb), .second, .val (.int (1 : Int32)), .val (.int (0 : Int32)), .unset, .unset, .unset, .unset, .unset, .unset, .unset, .unset, .unset, .unset, .unset]) rfl ?_
    refine XS.iloadN X0.here hx rfl (hb hby at_56) rfl ?_
    refine XS.sipush X0.here hx rfl (hb hby at_57) ?_
    show Steps p.tables e below (s₁.setTop (mkF m 60 #[.val (.int p0), .val (.int p1), .val (.int p2), .val (.int p3), .val (.int p4), .val (.int p5), .val (.long wa), .second, .val (.long wb), .second, .val (.int (1 : Int32)), .val (.int (0 : Int32)), .unset, .unset, .unset, .unset, .unset, .unset, .unset, .unset, .unset, .unset, .unset] [(.int (1024 : Int32)), (.int p2)])) _
    refine iremM (g := (mkF m 60 #[.val (.int p0), .val (.int p1), .val (.int p2), .val (.int p3), .val (.int p4), .val (.int p5), .val (.long wa), .second, .val (.long wb), .second, .val (.int (1 : Int32)), .val (.int (0 : Int32)), .unset, .unset, .unset, .unset, .unset, .unset, .unset, .unset, .unset, .unset, .unset] [(.int (1024 : Int32)), (.int p2)])) X0 hx rfl (hb hby at_60) rfl (by decide) ?_
    show Steps p.tables e below (s₁.setTop (mkF m 61 #[.val (.int p0), .val (.int p1), .val (.int p2), .val (.int p3), .val (.int p4), .val (.int p5), .val (.long wa), .second, .val (.long wb), .second, .val (.int (1 : Int32)), .val (.int (0 : Int32)), .unset, .unset, .unset, .unset, .unset, .unset, .unset, .unset, .unset, .unset, .unset] [(.int (p2 % (1024 : Int32)))])) _
    refine XS.i2l X0.here hx rfl (hb hby at_61) rfl ?_
    show Steps p.tables e below (s₁.setTop (mkF m 62 #[.val (.int p0), .val (.int p1), .val (.int p2), .val (.int p3), .val (.int p4), .val (.int p5), .val (.long wa), .second, .val (.long wb), .second, .val (.int (1 : Int32)), .val (.int (0 : Int32)), .unset, .unset, .unset, .unset, .unset, .unset, .unset, .unset, .unset, .unset, .unset] [(.long ((p2 % (1024 : Int32)).toInt64))])) _
    rw [hv61]
    show Steps p.tables e below (s₁.setTop (mkF m 62 #[.val (.int p0), .val (.int p1), .val (.int p2), .val (.int p3), .val (.int p4), .val (.int p5), .val (.long wa), .second, .val (.long wb), .second, .val (.int (1 : Int32)), .val (.int (0 : Int32)), .unset, .unset, .unset, .unset, .unset, .unset, .unset, .unset, .unset, .unset, .unset] [(.long ra)])) _
    refine XS.lstore X0.here hx rfl (hb hby at_62) rfl (l' := #[.val (.int p0), .val (.int p1), .val (.int p2), .val (.int p3), .val (.int p4), .val (.int p5), .val (.long wa), .second, .val (.long wb), .second, .val (.int (1 : Int32)), .val (.int (0 : Int32)), .val (.long ra), .second, .unset, .unset, .unset, .unset, .unset, .unset, .unset, .unset, .unset]) rfl ?_
    refine XS.iloadN X0.here hx rfl (hb hby at_64) rfl ?_
    refine XS.sipush X0.here hx rfl (hb hby at_65) ?_
    show Steps p.tables e below (s₁.setTop (mkF m 68 #[.val (.int p0), .val (.int p1), .val (.int p2), .val (.int p3), .val (.int p4), .val (.int p5), .val (.long wa), .second, .val (.long wb), .second, .val (.int (1 : Int32)), .val (.int (0 : Int32)), .val (.long ra), .second, .unset, .unset, .unset, .unset, .unset, .unset, .unset, .unset, .unset] [(.int (1024 : Int32)), (.int p3)])) _
    refine iremM (g := (mkF m 68 #[.val (.int p0), .val (.int p1), .val (.int p2), .val (.int p3), .val (.int p4), .val (.int p5), .val (.long wa), .second, .val (.long wb), .second, .val (.int (1 : Int32)), .val (.int (0 : Int32)), .val (.long ra), .second, .unset, .unset, .unset, .unset, .unset, .unset, .unset, .unset, .unset] [(.int (1024 : Int32)), (.int p3)])) X0 hx rfl (hb hby at_68) rfl (by decide) ?_
    show Steps p.tables e below (s₁.setTop (mkF m 69 #[.val (.int p0), .val (.int p1), .val (.int p2), .val (.int p3), .val (.int p4), .val (.int p5), .val (.long wa), .second, .val (.long wb), .second, .val (.int (1 : Int32)), .val (.int (0 : Int32)), .val (.long ra), .second, .unset, .unset, .unset, .unset, .unset, .unset, .unset, .unset, .unset] [(.int (p3 % (1024 : Int32)))])) _
    refine XS.i2l X0.here hx rfl (hb hby at_69) rfl ?_
    show Steps p.tables e below (s₁.setTop (mkF m 70 #[.val (.int p0), .val (.int p1), .val (.int p2), .val (.int p3), .val (.int p4), .val (.int p5), .val (.long wa), .second, .val (.long wb), .second, .val (.int (1 : Int32)), .val (.int (0 : Int32)), .val (.long ra), .second, .unset, .unset, .unset, .unset, .unset, .unset, .unset, .unset, .unset] [(.long ((p3 % (1024 : Int32)).toInt64))])) _
    rw [hv69]
    show Steps p.tables e below (s₁.setTop (mkF m 70 #[.val (.int p0), .val (.int p1), .val (.int p2), .val (.int p3), .val (.int p4), .val (.int p5), .val (.long wa), .second, .val (.long wb), .second, .val (.int (1 : Int32)), .val (.int (0 : Int32)), .val (.long ra), .second, .unset, .unset, .unset, .unset, .unset, .unset, .unset, .unset, .unset] [(.long rb)])) _
    refine XS.lstore X0.here hx rfl (hb hby at_70) rfl (l' := #[.val (.int p0), .val (.int p1), .val (.int p2), .val (.int p3), .val (.int p4), .val (.int p5), .val (.long wa), .second, .val (.long wb), .second, .val (.int (1 : Int32)), .val (.int (0 : Int32)), .val (.long ra), .second, .val (.long rb), .second, .unset, .unset, .unset, .unset, .unset, .unset, .unset]) rfl ?_
    refine st1 _ ?_
    show Steps p.tables e below (T1.setTop (mkF m 75 #[.val (.int p0), .val (.int p1), .val (.int p2), .val (.int p3), .val (.int p4), .val (.int p5), .val (.long wa), .second, .val (.long wb), .second, .val (.int (1 : Int32)), .val (.int (0 : Int32)), .val (.long ra), .second, .val (.long rb), .second, .unset, .unset, .unset, .unset, .unset, .unset, .unset] [(.ref b1)])) _
    refine XS.dup X1.here hx rfl (hb hby at_75) rfl rfl ?_
    show Steps p.tables e below (T1.setTop (mkF m 76 #[.val (.int p0), .val (.int p1), .val (.int p2), .val (.int p3), .val (.int p4), .val (.int p5), .val (.long wa), .second, .val (.long wb), .second, .val (.int (1 : Int32)), .val (.int (0 : Int32)), .val (.long ra), .second, .val (.long rb), .second, .unset, .unset, .unset, .unset, .unset, .unset, .unset] [(.ref b1), (.ref b1)])) _
    refine st2.trans ?_
    show Steps p.tables e below (T2.setTop (mkF m 79 #[.val (.int p0), .val (.int p1), .val (.int p2), .val (.int p3), .val (.int p4), .val (.int p5), .val (.long wa), .second, .val (.long wb), .second, .val (.int (1 : Int32)), .val (.int (0 : Int32)), .val (.long ra), .second, .val (.long rb), .second, .unset, .unset, .unset, .unset, .unset, .unset, .unset] [(.ref b1)])) _
    refine XS.astore X2.here hx rfl (hb hby at_79) rfl rfl (l' := #[.val (.int p0), .val (.int p1), .val (.int p2), .val (.int p3), .val (.int p4), .val (.int p5), .val (.long wa), .second, .val (.long wb), .second, .val (.int (1 : Int32)), .val (.int (0 : Int32)), .val (.long ra), .second, .val (.long rb), .second, .val (.ref b1), .unset, .unset, .unset, .unset, .unset, .unset]) rfl ?_
    refine XS.iload X2.here hx rfl (hb hby at_81) rfl ?_
    refine XS.ifNo X2.here hx rfl (hb hby at_83) rfl ((if0 _ _).trans (feq (by decide : ¬ ((1 : Int32) = (0 : Int32)))).1) ?_
    refine XS.aload X2.here hx rfl (hb hby at_86) rfl rfl ?_
    refine XS.lload X2.here hx rfl (hb hby at_88) rfl ?_
    show Steps p.tables e below (T2.setTop (mkF m 90 #[.val (.int p0), .val (.int p1), .val (.int p2), .val (.int p3), .val (.int p4), .val (.int p5), .val (.long wa), .second, .val (.long wb), .second, .val (.int (1 : Int32)), .val (.int (0 : Int32)), .val (.long ra), .second, .val (.long rb), .second, .val (.ref b1), .unset, .unset, .unset, .unset, .unset, .unset] [(.long wa), (.ref b1)])) _
    refine XS.l2dS X2.here hx rfl (hb hby at_90) rfl (v := (FP.l2d wa)) rfl ?_
    refine XS.lload X2.here hx rfl (hb hby at_91) rfl ?_
    refine XS.iloadN X2.here hx rfl (hb hby at_93) rfl ?_
    refine XS.i2l X2.here hx rfl (hb hby at_94) rfl ?_
    refine XS.lmul X2.here hx rfl (hb hby at_95) rfl ?_
    show Steps p.tables e below (T2.setTop (mkF m 96 #[.val (.int p0), .val (.int p1), .val (.int p2), .val (.int p3), .val (.int p4), .val (.int p5), .val (.long wa), .second, .val (.long wb), .second, .val (.int (1 : Int32)), .val (.int (0 : Int32)), .val (.long ra), .second, .val (.long rb), .second, .val (.ref b1), .unset, .unset, .unset, .unset, .unset, .unset] [(.long (ra * (p0.toInt64))), (.double (FP.l2d wa)), (.ref b1)])) _
    rw [hv95]
    show Steps p.tables e below (T2.setTop (mkF m 96 #[.val (.int p0), .val (.int p1), .val (.int p2), .val (.int p3), .val (.int p4), .val (.int p5), .val (.long wa), .second, .val (.long wb), .second, .val (.int (1 : Int32)), .val (.int (0 : Int32)), .val (.long ra), .second, .val (.long rb), .second, .val (.ref b1), .unset, .unset, .unset, .unset, .unset, .unset] [(.long xa), (.double (FP.l2d wa)), (.ref b1)])) _
    refine XS.l2dS X2.here hx rfl (hb hby at_96) rfl (v := (FP.l2d xa)) rfl ?_
    refine XS.iloadN X2.here hx rfl (hb hby at_97) rfl ?_
    refine XS.i2l X2.here hx rfl (hb hby at_98) rfl ?_
    refine st3.trans ?_
    show Steps p.tables e below (T3.setTop (mkF m 102 #[.val (.int p0), .val (.int p1), .val (.int p2), .val (.int p3), .val (.int p4), .val (.int p5), .val (.long wa), .second, .val (.long wb), .second, .val (.int (1 : Int32)), .val (.int (0 : Int32)), .val (.long ra), .second, .val (.long rb), .second, .val (.ref b1), .unset, .unset, .unset, .unset, .unset, .unset] [])) _
    refine XS.iload X3.here hx rfl (hb hby at_102) rfl ?_
    refine XS.ifYes X3.here hx rfl (pc0 := 104) (pc' := 123) rfl (hb hby at_104) rfl ((if0 _ _).trans (teq (by decide : (0 : Int32) = (0 : Int32))).1) (by decide) (by decide) ?_
    show Steps p.tables e below (T3.setTop (mkF m 123 #[.val (.int p0), .val (.int p1), .val (.int p2), .val (.int p3), .val (.int p4), .val (.int p5), .val (.long wa), .second, .val (.long wb), .second, .val (.int (1 : Int32)), .val (.int (0 : Int32)), .val (.long ra), .second, .val (.long rb), .second, .val (.ref b1), .unset, .unset, .unset, .unset, .unset, .unset] [])) _
    refine XS.lconst X3.here hx rfl (hb hby at_123) ?_
    refine XS.lstore X3.here hx rfl (hb hby at_124) rfl (l' := #[.val (.int p0), .val (.int p1), .val (.int p2), .val (.int p3), .val (.int p4), .val (.int p5), .val (.long wa), .second, .val (.long wb), .second, .val (.int (1 : Int32)), .val (.int (0 : Int32)), .val (.long ra), .second, .val (.long rb), .second, .val (.ref b1), .val (.long (0 : Int64)), .second, .unset, .unset, .unset, .unset]) rfl ?_
    refine XS.lconst X3.here hx rfl (hb hby at_126) ?_
    refine XS.lstore X3.here hx rfl (hb hby at_127) rfl (l' := #[.val (.int p0), .val (.int p1), .val (.int p2), .val (.int p3), .val (.int p4), .val (.int p5), .val (.long wa), .second, .val (.long wb), .second, .val (.int (1 : Int32)), .val (.int (0 : Int32)), .val (.long ra), .second, .val (.long rb), .second, .val (.ref b1), .val (.long (0 : Int64)), .second, .val (.long (0 : Int64)), .second, .unset, .unset]) rfl ?_
    refine XS.iload X3.here hx rfl (hb hby at_129) rfl ?_
    refine XS.ifNo X3.here hx rfl (hb hby at_131) rfl ((if0 _ _).trans (feq (by decide : ¬ ((1 : Int32) = (0 : Int32)))).1) ?_
    show Steps p.tables e below (T3.setTop (mkF m 134 #[.val (.int p0), .val (.int p1), .val (.int p2), .val (.int p3), .val (.int p4), .val (.int p5), .val (.long wa), .second, .val (.long wb), .second, .val (.int (1 : Int32)), .val (.int (0 : Int32)), .val (.long ra), .second, .val (.long rb), .second, .val (.ref b1), .val (.long (0 : Int64)), .second, .val (.long (0 : Int64)), .second, .unset, .unset] [])) _
    refine XS.iloadN X3.here hx rfl (hb hby at_134) rfl ?_
    refine XS.ifNo X3.here hx rfl (hb hby at_135) rfl ((if0 _ _).trans (tlt hc135).2.2.2) ?_
    refine XS.lload X3.here hx rfl (hb hby at_138) rfl ?_
    refine XS.lload X3.here hx rfl (hb hby at_140) rfl ?_
    refine XS.ladd X3.here hx rfl (hb hby at_142) rfl ?_
    show Steps p.tables e below (T3.setTop (mkF m 143 #[.val (.int p0), .val (.int p1), .val (.int p2), .val (.int p3), .val (.int p4), .val (.int p5), .val (.long wa), .second, .val (.long wb), .second, .val (.int (1 : Int32)), .val (.int (0 : Int32)), .val (.long ra), .second, .val (.long rb), .second, .val (.ref b1), .val (.long (0 : Int64)), .second, .val (.long (0 : Int64)), .second, .unset, .unset] [(.long ((0 : Int64) + wa))])) _
    rw [hv142]
    show Steps p.tables e below (T3.setTop (mkF m 143 #[.val (.int p0), .val (.int p1), .val (.int p2), .val (.int p3), .val (.int p4), .val (.int p5), .val (.long wa), .second, .val (.long wb), .second, .val (.int (1 : Int32)), .val (.int (0 : Int32)), .val (.long ra), .second, .val (.long rb), .second, .val (.ref b1), .val (.long (0 : Int64)), .second, .val (.long (0 : Int64)), .second, .unset, .unset] [(.long pA)])) _
    refine XS.lstore X3.here hx rfl (hb hby at_143) rfl (l' := #[.val (.int p0), .val (.int p1), .val (.int p2), .val (.int p3), .val (.int p4), .val (.int p5), .val (.long wa), .second, .val (.long wb), .second, .val (.int (1 : Int32)), .val (.int (0 : Int32)), .val (.long ra), .second, .val (.long rb), .second, .val (.ref b1), .val (.long pA), .second, .val (.long (0 : Int64)), .second, .unset, .unset]) rfl ?_
    refine XS.lload X3.here hx rfl (hb hby at_145) rfl ?_
    refine XS.lload X3.here hx rfl (hb hby at_147) rfl ?_
    refine XS.lload X3.here hx rfl (hb hby at_149) rfl ?_
    refine XS.lmul X3.here hx rfl (hb hby at_151) rfl ?_
    refine XS.ladd X3.here hx rfl (hb hby at_152) rfl ?_
    show Steps p.tables e below (T3.setTop (mkF m 153 #[.val (.int p0), .val (.int p1), .val (.int p2), .val (.int p3), .val (.int p4), .val (.int p5), .val (.long wa), .second, .val (.long wb), .second, .val (.int (1 : Int32)), .val (.int (0 : Int32)), .val (.long ra), .second, .val (.long rb), .second, .val (.ref b1), .val (.long pA), .second, .val (.long (0 : Int64)), .second, .unset, .unset] [(.long ((0 : Int64) + (wa * ra)))])) _
    rw [hv152]
    show Steps p.tables e below (T3.setTop (mkF m 153 #[.val (.int p0), .val (.int p1), .val (.int p2), .val (.int p3), .val (.int p4), .val (.int p5), .val (.long wa), .second, .val (.long wb), .second, .val (.int (1 : Int32)), .val (.int (0 : Int32)), .val (.long ra), .second, .val (.long rb), .second, .val (.ref b1), .val (.long pA), .second, .val (.long (0 : Int64)), .second, .unset, .unset] [(.long nA)])) _
    refine XS.lstore X3.here hx rfl (hb hby at_153) rfl (l' := #[.val (.int p0), .val (.int p1), .val (.int p2), .val (.int p3), .val (.int p4), .val (.int p5), .val (.long wa), .second, .val (.long wb), .second, .val (.int (1 : Int32)), .val (.int (0 : Int32)), .val (.long ra), .second, .val (.long rb), .second, .val (.ref b1), .val (.long pA), .second, .val (.long nA), .second, .unset, .unset]) rfl ?_
    refine XS.iload X3.here hx rfl (hb hby at_155) rfl ?_
    refine XS.ifYes X3.here hx rfl (pc0 := 157) (pc' := 181) rfl (hb hby at_157) rfl ((if0 _ _).trans (teq (by decide : (0 : Int32) = (0 : Int32))).1) (by decide) (by decide) ?_
    refine XS.aload X3.here hx rfl (hb hby at_181) rfl rfl ?_
    refine st16.trans ?_
    show Steps p.tables e below (T16.setTop (mkF m 186 #[.val (.int p0), .val (.int p1), .val (.int p2), .val (.int p3), .val (.int p4), .val (.int p5), .val (.long wa), .second, .val (.long wb), .second, .val (.int (1 : Int32)), .val (.int (0 : Int32)), .val (.long ra), .second, .val (.long rb), .second, .val (.ref b1), .val (.long pA), .second, .val (.long nA), .second, .unset, .unset] [(.double (FP.ddiv wr1 pw1))])) _
    refine XS.dstore X16.here hx rfl (hb hby at_186) rfl (l' := #[.val (.int p0), .val (.int p1), .val (.int p2), .val (.int p3), .val (.int p4), .val (.int p5), .val (.long wa), .second, .val (.long wb), .second, .val (.int (1 : Int32)), .val (.int (0 : Int32)), .val (.long ra), .second, .val (.long rb), .second, .val (.ref b1), .val (.long pA), .second, .val (.long nA), .second, .val (.double (FP.ddiv wr1 pw1)), .second]) rfl ?_
    refine XS.lload X16.here hx rfl (hb hby at_188) rfl ?_
    refine XS.lconst X16.here hx rfl (hb hby at_190) ?_
    refine XS.lcmp X16.here hx rfl (hb hby at_191) rfl ?_
    refine XS.ifYes X16.here hx rfl (pc0 := 192) (pc' := 209) rfl (hb hby at_192) rfl ((if0 _ _).trans (feq hc192).2) (by decide) (by decide) ?_
    refine XS.dload X16.here hx rfl (hb hby at_209) rfl ?_
    show Steps p.tables e below (T16.setTop (mkF m 211 #[.val (.int p0), .val (.int p1), .val (.int p2), .val (.int p3), .val (.int p4), .val (.int p5), .val (.long wa), .second, .val (.long wb), .second, .val (.int (1 : Int32)), .val (.int (0 : Int32)), .val (.long ra), .second, .val (.long rb), .second, .val (.ref b1), .val (.long pA), .second, .val (.long nA), .second, .val (.double (FP.ddiv wr1 pw1)), .second] [(.double (FP.ddiv wr1 pw1))])) _
    refine XS.lload X16.here hx rfl (hb hby at_211) rfl ?_
    refine XS.l2dS X16.here hx rfl (hb hby at_213) rfl (v := (FP.l2d nA)) rfl ?_
    refine XS.lload X16.here hx rfl (hb hby at_214) rfl ?_
    refine XS.l2dS X16.here hx rfl (hb hby at_216) rfl (v := (FP.l2d pA)) rfl ?_
    refine XS.ddivS X16.here hx rfl (hb hby at_217) rfl nn217 (v := (FP.ddiv (FP.l2d nA) (FP.l2d pA))) rfl ?_
    refine XS.dcmpS X16.here hx rfl (hb hby at_218) rfl (v := (0 : Int32)) hd218 ?_
    show Steps p.tables e below (T16.setTop (mkF m 219 #[.val (.int p0), .val (.int p1), .val (.int p2), .val (.int p3), .val (.int p4), .val (.int p5), .val (.long wa), .second, .val (.long wb), .second, .val (.int (1 : Int32)), .val (.int (0 : Int32)), .val (.long ra), .second, .val (.long rb), .second, .val (.ref b1), .val (.long pA), .second, .val (.long nA), .second, .val (.double (FP.ddiv wr1 pw1)), .second] [(.int (0 : Int32))])) _
    refine XS.ifNo X16.here hx rfl (hb hby at_219) rfl ((if0 _ _).trans (teq (by decide : (0 : Int32) = (0 : Int32))).2) ?_
    refine XS.iconst X16.here hx rfl (hb hby at_222) ?_
    refine XS.goto X16.here hx rfl (pc0 := 223) (pc' := 227) rfl (hb hby at_223) (by decide) (by decide) ?_
    exact retN X16 hx (t := .boolean) Bd.returns (by simp) (hb hby at_227) hr
  · show Q0 n0 _ T16.heap _
    rw [e16]
    exact ⟨rfl, N16⟩
set_option maxRecDepth 65536 in
set_option maxHeartbeats 40000000 in
theorem rm0_pp (l : Launch) (Z : State) (a0 : Array Value) (hw : ∀ d ∈ tables_1, d.before a0 Z = true) (ws : List Jvm.Cond) (p0 : Int32) (p1 : Int32) (p2 : Int32) (p3 : Int32) (p4 : Int32) (p5 : Int32) (ob1 : UInt64) (pb1 : UInt64) (w1 : UInt64) (so1 : UInt64) (sp1 : UInt64) (oa1 : UInt64) (pa1 : UInt64) (ma1 : UInt64) (mb1 : UInt64) (mc1 : UInt64) (pw1 : UInt64) (wr1 : UInt64) (ob2 : UInt64) (pb2 : UInt64) (w2 : UInt64) (so2 : UInt64) (sp2 : UInt64) (oa2 : UInt64) (pa2 : UInt64) (ma2 : UInt64) (mb2 : UInt64) (mc2 : UInt64) (pw2 : UInt64) (wr2 : UInt64) (wa : Int64) (wb : Int64) (ra : Int64) (rb : Int64) (xa : Int64) (xb : Int64) (pA : Int64) (nA : Int64) (pB : Int64) (nB : Int64) (h0 : Heap) (n0 : Nat) (Z0 : n0 ≤ h0.size) (hv8 : (((p4 &&& (1023 : Int32)) + (1 : Int32)).toInt64) = wa) (hv19 : (((p5 &&& (1023 : Int32)) + (1 : Int32)).toInt64) = wb) (hc29 : ¬ ((((p4.toUInt32 >>> ((10 : Int32) &&& 31).toUInt32).toInt32) &&& (3 : Int32)) = (0 : Int32))) (hc46 : ¬ ((((p5.toUInt32 >>> ((10 : Int32) &&& 31).toUInt32).toInt32) &&& (3 : Int32)) = (0 : Int32))) (hv61 : ((p2 % (1024 : Int32)).toInt64) = ra) (hv69 : ((p3 % (1024 : Int32)).toInt64) = rb) (hv95 : (ra * (p0.toInt64)) = xa) (nn5_99 : Jvm.Free.Fl.NoNaN64 (FP.dsub (FP.l2d xa) (0 : UInt64))) (hq5_99 : (FP.dsub (FP.l2d xa) (0 : UInt64)) = ob1) (nn15_99 : Jvm.Free.Fl.NoNaN64 (FP.dsub (FP.l2d (p0.toInt64)) (0 : UInt64))) (hq15_99 : (FP.dsub (FP.l2d (p0.toInt64)) (0 : UInt64)) = pb1) (nn34_99 : Jvm.Free.Fl.NoNaN64 (FP.dadd (0 : UInt64) (FP.l2d wa))) (hq34_99 : (FP.dadd (0 : UInt64) (FP.l2d wa)) = w1) (nn45_99 : Jvm.Free.Fl.NoNaN64 (FP.dmul (FP.l2d wa) (FP.l2d xa))) (nn46_99 : Jvm.Free.Fl.NoNaN64 (FP.dadd (0 : UInt64) (FP.dmul (FP.l2d wa) (FP.l2d xa)))) (hq46_99 : (FP.dadd (0 : UInt64) (FP.dmul (FP.l2d wa) (FP.l2d xa))) = so1) (nn59_99 : Jvm.Free.Fl.NoNaN64 (FP.dmul (FP.l2d wa) (FP.l2d (p0.toInt64)))) (nn60_99 : Jvm.Free.Fl.NoNaN64 (FP.dadd (0 : UInt64) (FP.dmul (FP.l2d wa) (FP.l2d (p0.toInt64))))) (hq60_99 : (FP.dadd (0 : UInt64) (FP.dmul (FP.l2d wa) (FP.l2d (p0.toInt64)))) = sp1) (nn21_66_99 : Jvm.Free.Fl.NoNaN64 (FP.ddiv so1 w1)) (nn69_99 : Jvm.Free.Fl.NoNaN64 (FP.dsub (FP.l2d xa) (FP.ddiv so1 w1))) (hq69_99 : (FP.dsub (FP.l2d xa) (FP.ddiv so1 w1)) = oa1) (nn21_76_99 : Jvm.Free.Fl.NoNaN64 (FP.ddiv sp1 w1)) (nn79_99 : Jvm.Free.Fl.NoNaN64 (FP.dsub (FP.l2d (p0.toInt64)) (FP.ddiv sp1 w1))) (hq79_99 : (FP.dsub (FP.l2d (p0.toInt64)) (FP.ddiv sp1 w1)) = pa1) (nn90_99 : Jvm.Free.Fl.NoNaN64 (FP.dmul (FP.l2d wa) ob1)) (nn93_99 : Jvm.Free.Fl.NoNaN64 (FP.dmul (FP.dmul (FP.l2d wa) ob1) oa1)) (nn94_99 : Jvm.Free.Fl.NoNaN64 (FP.dadd (0 : UInt64) (FP.dmul (FP.dmul (FP.l2d wa) ob1) oa1))) (hq94_99 : (FP.dadd (0 : UInt64) (FP.dmul (FP.dmul (FP.l2d wa) ob1) oa1)) = ma1) (nn106_99 : Jvm.Free.Fl.NoNaN64 (FP.dmul (FP.l2d wa) pb1)) (nn109_99 : Jvm.Free.Fl.NoNaN64 (FP.dmul (FP.dmul (FP.l2d wa) pb1) pa1)) (nn110_99 : Jvm.Free.Fl.NoNaN64 (FP.dadd (0 : UInt64) (FP.dmul (FP.dmul (FP.l2d wa) pb1) pa1))) (hq110_99 : (FP.dadd (0 : UInt64) (FP.dmul (FP.dmul (FP.l2d wa) pb1) pa1)) = mb1) (nn122_99 : Jvm.Free.Fl.NoNaN64 (FP.dmul (FP.l2d wa) ob1)) (nn125_99 : Jvm.Free.Fl.NoNaN64 (FP.dmul (FP.dmul (FP.l2d wa) ob1) pa1)) (nn126_99 : Jvm.Free.Fl.NoNaN64 (FP.dadd (0 : UInt64) (FP.dmul (FP.dmul (FP.l2d wa) ob1) pa1))) (hq126_99 : (FP.dadd (0 : UInt64) (FP.dmul (FP.dmul (FP.l2d wa) ob1) pa1)) = mc1) (hc134_99 : (0 : Int32) < (lcmpW (p0.toInt64) (0 : Int64))) (nn143_99 : Jvm.Free.Fl.NoNaN64 (FP.dadd (0 : UInt64) (FP.l2d wa))) (hq143_99 : (FP.dadd (0 : UInt64) (FP.l2d wa)) = pw1) (nn157_99 : Jvm.Free.Fl.NoNaN64 (FP.ddiv (FP.l2d xa) (FP.l2d (p0.toInt64)))) (nn158_99 : Jvm.Free.Fl.NoNaN64 (FP.dmul (FP.l2d wa) (FP.ddiv (FP.l2d xa) (FP.l2d (p0.toInt64))))) (nn159_99 : Jvm.Free.Fl.NoNaN64 (FP.dadd (0 : UInt64) (FP.dmul (FP.l2d wa) (FP.ddiv (FP.l2d xa) (FP.l2d (p0.toInt64)))))) (hq159_99 : (FP.dadd (0 : UInt64) (FP.dmul (FP.l2d wa) (FP.ddiv (FP.l2d xa) (FP.l2d (p0.toInt64))))) = wr1) (hv116 : (rb * (p1.toInt64)) = xb) (nn21_2_120 : Jvm.Free.Fl.NoNaN64 (FP.ddiv so1 w1)) (nn5_120 : Jvm.Free.Fl.NoNaN64 (FP.dsub (FP.l2d xb) (FP.ddiv so1 w1))) (hq5_120 : (FP.dsub (FP.l2d xb) (FP.ddiv so1 w1)) = ob2) (nn21_12_120 : Jvm.Free.Fl.NoNaN64 (FP.ddiv sp1 w1)) (nn15_120 : Jvm.Free.Fl.NoNaN64 (FP.dsub (FP.l2d (p1.toInt64)) (FP.ddiv sp1 w1))) (hq15_120 : (FP.dsub (FP.l2d (p1.toInt64)) (FP.ddiv sp1 w1)) = pb2) (nn34_120 : Jvm.Free.Fl.NoNaN64 (FP.dadd w1 (FP.l2d wb))) (hq34_120 : (FP.dadd w1 (FP.l2d wb)) = w2) (nn45_120 : Jvm.Free.Fl.NoNaN64 (FP.dmul (FP.l2d wb) (FP.l2d xb))) (nn46_120 : Jvm.Free.Fl.NoNaN64 (FP.dadd so1 (FP.dmul (FP.l2d wb) (FP.l2d xb)))) (hq46_120 : (FP.dadd so1 (FP.dmul (FP.l2d wb) (FP.l2d xb))) = so2) (nn59_120 : Jvm.Free.Fl.NoNaN64 (FP.dmul (FP.l2d wb) (FP.l2d (p1.toInt64)))) (nn60_120 : Jvm.Free.Fl.NoNaN64 (FP.dadd sp1 (FP.dmul (FP.l2d wb) (FP.l2d (p1.toInt64))))) (hq60_120 : (FP.dadd sp1 (FP.dmul (FP.l2d wb) (FP.l2d (p1.toInt64)))) = sp2) (nn21_66_120 : Jvm.Free.Fl.NoNaN64 (FP.ddiv so2 w2)) (nn69_120 : Jvm.Free.Fl.NoNaN64 (FP.dsub (FP.l2d xb) (FP.ddiv so2 w2))) (hq69_120 : (FP.dsub (FP.l2d xb) (FP.ddiv so2 w2)) = oa2) (nn21_76_120 : Jvm.Free.Fl.NoNaN64 (FP.ddiv sp2 w2)) (nn79_120 : Jvm.Free.Fl.NoNaN64 (FP.dsub (FP.l2d (p1.toInt64)) (FP.ddiv sp2 w2))) (hq79_120 : (FP.dsub (FP.l2d (p1.toInt64)) (FP.ddiv sp2 w2)) = pa2) (nn90_120 : Jvm.Free.Fl.NoNaN64 (FP.dmul (FP.l2d wb) ob2)) (nn93_120 : Jvm.Free.Fl.NoNaN64 (FP.dmul (FP.dmul (FP.l2d wb) ob2) oa2)) (nn94_120 : Jvm.Free.Fl.NoNaN64 (FP.dadd ma1 (FP.dmul (FP.dmul (FP.l2d wb) ob2) oa2))) (hq94_120 : (FP.dadd ma1 (FP.dmul (FP.dmul (FP.l2d wb) ob2) oa2)) = ma2) (nn106_120 : Jvm.Free.Fl.NoNaN64 (FP.dmul (FP.l2d wb) pb2)) (nn109_120 : Jvm.Free.Fl.NoNaN64 (FP.dmul (FP.dmul (FP.l2d wb) pb2) pa2)) (nn110_120 : Jvm.Free.Fl.NoNaN64 (FP.dadd mb1 (FP.dmul (FP.dmul (FP.l2d wb) pb2) pa2))) (hq110_120 : (FP.dadd mb1 (FP.dmul (FP.dmul (FP.l2d wb) pb2) pa2)) = mb2) (nn122_120 : Jvm.Free.Fl.NoNaN64 (FP.dmul (FP.l2d wb) ob2)) (nn125_120 : Jvm.Free.Fl.NoNaN64 (FP.dmul (FP.dmul (FP.l2d wb) ob2) pa2)) (nn126_120 : Jvm.Free.Fl.NoNaN64 (FP.dadd mc1 (FP.dmul (FP.dmul (FP.l2d wb) ob2) pa2))) (hq126_120 : (FP.dadd mc1 (FP.dmul (FP.dmul (FP.l2d wb) ob2) pa2)) = mc2) (hc134_120 : (0 : Int32) < (lcmpW (p1.toInt64) (0 : Int64))) (nn143_120 : Jvm.Free.Fl.NoNaN64 (FP.dadd pw1 (FP.l2d wb))) (hq143_120 : (FP.dadd pw1 (FP.l2d wb)) = pw2) (nn157_120 : Jvm.Free.Fl.NoNaN64 (FP.ddiv (FP.l2d xb) (FP.l2d (p1.toInt64)))) (nn158_120 : Jvm.Free.Fl.NoNaN64 (FP.dmul (FP.l2d wb) (FP.ddiv (FP.l2d xb) (FP.l2d (p1.toInt64))))) (nn159_120 : Jvm.Free.Fl.NoNaN64 (FP.dadd wr1 (FP.dmul (FP.l2d wb) (FP.ddiv (FP.l2d xb) (FP.l2d (p1.toInt64)))))) (hq159_120 : (FP.dadd wr1 (FP.dmul (FP.l2d wb) (FP.ddiv (FP.l2d xb) (FP.l2d (p1.toInt64))))) = wr2) (hc135 : (0 : Int32) < p0) (hv142 : ((0 : Int64) + wa) = pA) (hv152 : ((0 : Int64) + (wa * ra)) = nA) (hc161 : (0 : Int32) < p1) (hv168 : (pA + wb) = pB) (hv178 : (nA + (wb * rb)) = nB) (hd5_183 : (cmpValue (FP.dcmp pw2 (0 : UInt64)) .l) = (1 : Int32)) (nn23_183 : Jvm.Free.Fl.NoNaN64 (FP.ddiv wr2 pw2)) (hc192 : ¬ ((lcmpW pB (0 : Int64)) = (0 : Int32))) (nn217 : Jvm.Free.Fl.NoNaN64 (FP.ddiv (FP.l2d nB) (FP.l2d pB))) (hd218 : (cmpValue (FP.dcmp (FP.ddiv wr2 pw2) (FP.ddiv (FP.l2d nB) (FP.l2d pB))) .l) = (0 : Int32)) :
    MetFree l x (head1 (Jvm.Cond.code x code maxLocals ret :: ws) room_1) (fun a U => a = #[(.int p0), (.int p1), (.int p2), (.int p3), (.int p4), (.int p5)] ∧ Z.Warmed39 U.vm ∧ U.heap = h0) (fun _ _ _ _ _ => True) (fun _ U o U' => ∃ v L, o = .returned v ∧ Q0 n0 v U'.heap L ∧ FrameEnd U o U' L room_1.cells room_1.slots) := by
  refine MetFree.of_bodySF (plainFor_of_name pn_com_example_arrivals_arrivals_core_SequenceStatisticsExpectedRatioPinLaw) hisR ?_
  intro p e s m args below meth c s₁ Bd hml0 hP hK
  obtain ⟨rfl, hZ, hh⟩ := hP
  have hx := Bd.exec
  have hby := Bd.bytes
  have hml : c.maxLocals = 23 := hml0
  have hown : s.vm.findClass "com/example/arrivals/arrivals/core/SequenceStatisticsExpectedRatioPinLaw" = some m.cls := findClass_of_methodNamed Bd.named
  have hnm := (name_of_methodNamed Bd.named Bd.method).1
  have X0 : Stand p l e room_1 s m #[(.int p0), (.int p1), (.int p2), (.int p3), (.int p4), (.int p5)] below meth c s₁ [] 0 0 := Stand.of_body Bd
  have e0 : s₁.heap = h0 := by rw [← hh, Bd.state]; rfl
  have N0 := Fr.nil n0
  have pre0 : ∀ t, Steps p.tables e below (s₁.setTop (mkF m 0 #[.val (.int p0), .val (.int p1), .val (.int p2), .val (.int p3), .val (.int p4), .val (.int p5), .unset, .unset, .unset, .unset, .unset, .unset, .unset, .unset, .unset, .unset, .unset, .unset, .unset, .unset, .unset, .unset, .unset] [])) t → Steps p.tables e below (s₁.setTop (entryFrame m #[(.int p0), (.int p1), (.int p2), (.int p3), (.int p4), (.int p5)] maxLocals)) t := fun t k => castTop (ef_0_IIIIII m p0 p1 p2 p3 p4 p5) k
  obtain ⟨T1, h1, X1, e1, E1, A1, D1, -, st1⟩ := newO X0 hx hZ hown (hw _ (List.mem_of_getElem? (i := 0) rfl)) (hw _ (List.mem_of_getElem? (i := 1) rfl)) (hw _ (List.mem_of_getElem? (i := 2) rfl)) e0 (g := (mkF m 72 #[.val (.int p0), .val (.int p1), .val (.int p2), .val (.int p3), .val (.int p4), .val (.int p5), .val (.long wa), .second, .val (.long wb), .second, .val (.int (1 : Int32)), .val (.int (1 : Int32)), .val (.long ra), .second, .val (.long rb), .second, .unset, .unset, .unset, .unset, .unset, .unset, .unset] [])) rfl (hb hby at_72) (by decide) (by decide)
  obtain ⟨b1, g1⟩ : ∃ z, z = h0.size := ⟨_, rfl⟩
  rw [← g1] at A1 D1 st1
  have g_b1 : n0 ≤ b1 := Nat.le_trans Z0 (Nat.le_of_eq g1.symm)
  have sz_b1 : h0.size ≤ b1 := Nat.le_trans (Keep.refl h0 []).1 (Nat.le_of_eq g1.symm)
  have K1 : Keep h0 h1 [] := (Keep.refl h0 []).ext E1
  have Zs1 := Nat.le_trans Z0 E1.1
  have F1_positiveWeight : Fld Z h1 b1 "com/example/arrivals/arrivals/core/SequenceStatistics" "positiveWeight" "D" (.double (0 : UInt64)) := D1 (Or.inl (hw _ (List.mem_of_getElem? (i := 15) rfl))) (ty := .double) (by decide)
  have F1_count : Fld Z h1 b1 "com/example/arrivals/arrivals/core/SequenceStatistics" "count" "J" (.long (0 : Int64)) := D1 (Or.inl (hw _ (List.mem_of_getElem? (i := 28) rfl))) (ty := .long) (by decide)
  have F1_weight : Fld Z h1 b1 "com/example/arrivals/arrivals/core/SequenceStatistics" "weight" "D" (.double (0 : UInt64)) := D1 (Or.inl (hw _ (List.mem_of_getElem? (i := 35) rfl))) (ty := .double) (by decide)
  have F1_sumOnline : Fld Z h1 b1 "com/example/arrivals/arrivals/core/SequenceStatistics" "sumOnline" "D" (.double (0 : UInt64)) := D1 (Or.inl (hw _ (List.mem_of_getElem? (i := 37) rfl))) (ty := .double) (by decide)
  have F1_sumOptimum : Fld Z h1 b1 "com/example/arrivals/arrivals/core/SequenceStatistics" "sumOptimum" "D" (.double (0 : UInt64)) := D1 (Or.inl (hw _ (List.mem_of_getElem? (i := 39) rfl))) (ty := .double) (by decide)
  have F1_comomentOnline : Fld Z h1 b1 "com/example/arrivals/arrivals/core/SequenceStatistics" "comomentOnline" "D" (.double (0 : UInt64)) := D1 (Or.inl (hw _ (List.mem_of_getElem? (i := 41) rfl))) (ty := .double) (by decide)
  have F1_comomentOptimum : Fld Z h1 b1 "com/example/arrivals/arrivals/core/SequenceStatistics" "comomentOptimum" "D" (.double (0 : UInt64)) := D1 (Or.inl (hw _ (List.mem_of_getElem? (i := 43) rfl))) (ty := .double) (by decide)
  have F1_comomentBoth : Fld Z h1 b1 "com/example/arrivals/arrivals/core/SequenceStatistics" "comomentBoth" "D" (.double (0 : UInt64)) := D1 (Or.inl (hw _ (List.mem_of_getElem? (i := 45) rfl))) (ty := .double) (by decide)
  have F1_zeroWeight : Fld Z h1 b1 "com/example/arrivals/arrivals/core/SequenceStatistics" "zeroWeight" "D" (.double (0 : UInt64)) := D1 (Or.inl (hw _ (List.mem_of_getElem? (i := 47) rfl))) (ty := .double) (by decide)
  have F1_weightedRatios : Fld Z h1 b1 "com/example/arrivals/arrivals/core/SequenceStatistics" "weightedRatios" "D" (.double (0 : UInt64)) := D1 (Or.inl (hw _ (List.mem_of_getElem? (i := 49) rfl))) (ty := .double) (by decide)
  obtain ⟨_, _, ⟨T2, L2, k2, n2⟩, -, X2, ⟨Lc2, hQ2, l2, y2, z2⟩, st2⟩ := X1.specialBack hx (y := (⟨"com/example/arrivals/arrivals/core/SequenceStatistics", "<init>", "()V"⟩ : MethodName)) rfl hown (mvT hZ (hw _ (List.mem_of_getElem? (i := 3) rfl))) (mvT hZ (hw _ (List.mem_of_getElem? (i := 4) rfl))) (mvT hZ (hw _ (List.mem_of_getElem? (i := 5) rfl))) (by decide) (backOf (W := 1) (rm1 l Z a0 hw [] b1 h1 n0 Zs1 A1) hZ (hw _ (List.mem_of_getElem? (i := 5) rfl)) (hw _ (List.mem_of_getElem? (i := 2) rfl)) (by decide) (by decide)) (g := (mkF m 76 #[.val (.int p0), .val (.int p1), .val (.int p2), .val (.int p3), .val (.int p4), .val (.int p5), .val (.long wa), .second, .val (.long wb), .second, .val (.int (1 : Int32)), .val (.int (1 : Int32)), .val (.long ra), .second, .val (.long rb), .second, .unset, .unset, .unset, .unset, .unset, .unset, .unset] [(.ref b1), (.ref b1)])) rfl (by rw [hml]; rfl) (Steps.refl _) (a := b1) (argsL := []) (rest := [(.ref b1)]) (lenOf pd_1 rfl) rfl (by show 2 * 0 + _ ≤ _; exact Nat.le_of_eq rfl) (hb hby at_76) (fun _ _ => ⟨rfl, e1, (by decide : 1 + 0 ≤ _), (by decide : 10 + 0 ≤ _)⟩)
  dsimp only [Pt.U, Pt.locs, Pt.cells, Pt.slots] at X2 l2 y2 z2 st2 hQ2
  subst l2 y2 z2
  obtain ⟨rfl, N2q, eh2⟩ := hQ2
  have N2 := Fr.app N0 N2q
  have e2 : T2.heap = h1 := eh2
  obtain ⟨cq3, kq3, q3a, q3b, q3c⟩ := isOf hZ e2 A1
  obtain ⟨_, _, ⟨T3, L3, k3, n3⟩, -, X3, ⟨Lc3, hQ3, l3, y3, z3⟩, st3⟩ := X2.virtualBack hx (y := (⟨"com/example/arrivals/arrivals/core/SequenceStatistics", "add", "(DDJ)V"⟩ : MethodName)) (z := (⟨"com/example/arrivals/arrivals/core/SequenceStatistics", "add", "(DDJ)V"⟩ : MethodName)) hown (mvT hZ (hw _ (List.mem_of_getElem? (i := 17) rfl))) (mvT hZ (hw _ (List.mem_of_getElem? (i := 18) rfl))) (notFace_of_selects (args := #[]) (mvT hZ (hw _ (List.mem_of_getElem? (i := 20) rfl)))) (mvT hZ (hw _ (List.mem_of_getElem? (i := 20) rfl))) (mvT hZ (hw _ (List.mem_of_getElem? (i := 19) rfl))) (by decide) (backOf (W := 0) (rm4_0p l Z a0 hw [] b1 (FP.l2d wa) (FP.l2d xa) (p0.toInt64) ob1 pb1 w1 so1 sp1 oa1 pa1 ma1 mb1 mc1 pw1 wr1 h1 n0 Zs1 A1 g_b1 F1_count F1_weight F1_sumOnline F1_sumOptimum F1_comomentOnline F1_comomentOptimum F1_comomentBoth F1_positiveWeight F1_weightedRatios F1_zeroWeight nn5_99 hq5_99 nn15_99 hq15_99 nn34_99 hq34_99 nn45_99 nn46_99 hq46_99 nn59_99 nn60_99 hq60_99 nn21_66_99 nn69_99 hq69_99 nn21_76_99 nn79_99 hq79_99 nn90_99 nn93_99 nn94_99 hq94_99 nn106_99 nn109_99 nn110_99 hq110_99 nn122_99 nn125_99 nn126_99 hq126_99 hc134_99 nn143_99 hq143_99 nn157_99 nn158_99 nn159_99 hq159_99) hZ (hw _ (List.mem_of_getElem? (i := 21) rfl)) (hw _ (List.mem_of_getElem? (i := 2) rfl)) (by decide) (by decide)) q3a q3c (g := (mkF m 99 #[.val (.int p0), .val (.int p1), .val (.int p2), .val (.int p3), .val (.int p4), .val (.int p5), .val (.long wa), .second, .val (.long wb), .second, .val (.int (1 : Int32)), .val (.int (1 : Int32)), .val (.long ra), .second, .val (.long rb), .second, .val (.ref b1), .unset, .unset, .unset, .unset, .unset, .unset] [(.long (p0.toInt64)), (.double (FP.l2d xa)), (.double (FP.l2d wa)), (.ref b1)])) rfl (by rw [hml]; rfl) (Steps.refl _) (argsL := [(.double (FP.l2d wa)), (.double (FP.l2d xa)), (.long (p0.toInt64))]) (rest := []) (lenOf pd_2 rfl) rfl (by show 2 * 0 + _ ≤ _; exact Nat.le_of_eq rfl) (hb hby at_99) (fun _ _ => ⟨rfl, e2, (by decide : 1 + 0 ≤ _), (by decide : 10 + 0 ≤ _)⟩)
  dsimp only [Pt.U, Pt.locs, Pt.cells, Pt.slots] at X3 l3 y3 z3 st3 hQ3
  subst l3 y3 z3
  obtain ⟨rfl, N3q, K3q, f4, f5, f6, f7, f8, f9, f10, f11, f12, f13, f14⟩ := hQ3
  have N3 := Fr.app N2 N3q
  have f15 := A1.keep K3q
  have K3 : Keep h0 T3.heap [] := K1.trans K3q (own_allS (Or.inr sz_b1) own_all0)
  have Zs3 := Nat.le_trans Zs1 K3q.1
  obtain ⟨cq16, kq16, q16a, q16b, q16c⟩ := isOf hZ rfl f4
  obtain ⟨_, _, ⟨T16, L16, k16, n16⟩, -, X16, ⟨Lc16, hQ16, l16, y16, z16⟩, st16⟩ := X3.virtualBack hx (y := (⟨"com/example/arrivals/arrivals/core/SequenceStatistics", "add", "(DDJ)V"⟩ : MethodName)) (z := (⟨"com/example/arrivals/arrivals/core/SequenceStatistics", "add", "(DDJ)V"⟩ : MethodName)) hown (mvT hZ (hw _ (List.mem_of_getElem? (i := 17) rfl))) (mvT hZ (hw _ (List.mem_of_getElem? (i := 18) rfl))) (notFace_of_selects (args := #[]) (mvT hZ (hw _ (List.mem_of_getElem? (i := 20) rfl)))) (mvT hZ (hw _ (List.mem_of_getElem? (i := 20) rfl))) (mvT hZ (hw _ (List.mem_of_getElem? (i := 19) rfl))) (by decide) (backOf (W := 0) (rm4_1p l Z a0 hw [] b1 (FP.l2d wb) (FP.l2d xb) (p1.toInt64) w1 so1 sp1 ma1 mb1 mc1 pw1 wr1 (0 : UInt64) ob2 pb2 w2 so2 sp2 oa2 pa2 ma2 mb2 mc2 pw2 wr2 T3.heap n0 Zs3 f4 g_b1 f5 f6 f7 f8 f9 f10 f11 f12 f13 f14 nn21_2_120 nn5_120 hq5_120 nn21_12_120 nn15_120 hq15_120 nn34_120 hq34_120 nn45_120 nn46_120 hq46_120 nn59_120 nn60_120 hq60_120 nn21_66_120 nn69_120 hq69_120 nn21_76_120 nn79_120 hq79_120 nn90_120 nn93_120 nn94_120 hq94_120 nn106_120 nn109_120 nn110_120 hq110_120 nn122_120 nn125_120 nn126_120 hq126_120 hc134_120 nn143_120 hq143_120 nn157_120 nn158_120 nn159_120 hq159_120) hZ (hw _ (List.mem_of_getElem? (i := 21) rfl)) (hw _ (List.mem_of_getElem? (i := 2) rfl)) (by decide) (by decide)) q16a q16c (g := (mkF m 120 #[.val (.int p0), .val (.int p1), .val (.int p2), .val (.int p3), .val (.int p4), .val (.int p5), .val (.long wa), .second, .val (.long wb), .second, .val (.int (1 : Int32)), .val (.int (1 : Int32)), .val (.long ra), .second, .val (.long rb), .second, .val (.ref b1), .unset, .unset, .unset, .unset, .unset, .unset] [(.long (p1.toInt64)), (.double (FP.l2d xb)), (.double (FP.l2d wb)), (.ref b1)])) rfl (by rw [hml]; rfl) (Steps.refl _) (argsL := [(.double (FP.l2d wb)), (.double (FP.l2d xb)), (.long (p1.toInt64))]) (rest := []) (lenOf pd_2 rfl) rfl (by show 2 * 0 + _ ≤ _; exact Nat.le_of_eq rfl) (hb hby at_120) (fun _ _ => ⟨rfl, rfl, (by decide : 1 + 0 ≤ _), (by decide : 10 + 0 ≤ _)⟩)
  dsimp only [Pt.U, Pt.locs, Pt.cells, Pt.slots] at X16 l16 y16 z16 st16 hQ16
  subst l16 y16 z16
  obtain ⟨rfl, N16q, K16q, f17, f18, f19, f20, f21, f22, f23, f24, f25, f26, f27⟩ := hQ16
  have N16 := Fr.app N3 N16q
  have f28 := f4.keep K16q
  have K16 : Keep h0 T16.heap [] := K3.trans K16q (own_allS (Or.inr sz_b1) own_all0)
  have Zs16 := Nat.le_trans Zs3 K16q.1
  obtain ⟨cq29, kq29, q29a, q29b, q29c⟩ := isOf hZ rfl f17
  obtain ⟨_, _, ⟨T29, L29, k29, n29⟩, -, X29, ⟨Lc29, hQ29, l29, y29, z29⟩, st29⟩ := X16.virtualBack hx (y := (⟨"com/example/arrivals/arrivals/core/SequenceStatistics", "expectedRatio", "()D"⟩ : MethodName)) (z := (⟨"com/example/arrivals/arrivals/core/SequenceStatistics", "expectedRatio", "()D"⟩ : MethodName)) hown (mvT hZ (hw _ (List.mem_of_getElem? (i := 9) rfl))) (mvT hZ (hw _ (List.mem_of_getElem? (i := 10) rfl))) (notFace_of_selects (args := #[]) (mvT hZ (hw _ (List.mem_of_getElem? (i := 12) rfl)))) (mvT hZ (hw _ (List.mem_of_getElem? (i := 12) rfl))) (mvT hZ (hw _ (List.mem_of_getElem? (i := 11) rfl))) (by decide) (backOf (W := 0) (rm3n l Z a0 hw [] b1 pw2 wr2 T16.heap n0 Zs16 f25 f26 hd5_183 nn23_183) hZ (hw _ (List.mem_of_getElem? (i := 13) rfl)) (hw _ (List.mem_of_getElem? (i := 2) rfl)) (by decide) (by decide)) q29a q29c (g := (mkF m 183 #[.val (.int p0), .val (.int p1), .val (.int p2), .val (.int p3), .val (.int p4), .val (.int p5), .val (.long wa), .second, .val (.long wb), .second, .val (.int (1 : Int32)), .val (.int (1 : Int32)), .val (.long ra), .second, .val (.long rb), .second, .val (.ref b1), .val (.long pB), .second, .val (.long nB), .second, .unset, .unset] [(.ref b1)])) rfl (by rw [hml]; rfl) (Steps.refl _) (argsL := []) (rest := []) (lenOf pd_0 rfl) rfl (by show 2 * 0 + _ ≤ _; exact Nat.le_of_eq rfl) (hb hby at_183) (fun _ _ => ⟨rfl, rfl, (by decide : 1 + 0 ≤ _), (by decide : 10 + 0 ≤ _)⟩)
  dsimp only [Pt.U, Pt.locs, Pt.cells, Pt.slots] at X29 l29 y29 z29 st29 hQ29
  subst l29 y29 z29
  obtain ⟨rfl, N29q, eh29⟩ := hQ29
  have N29 := Fr.app N16 N29q
  have e29 : T29.heap = T16.heap := eh29
  obtain ⟨fs, hr, hrun, hended, hW, hsame⟩ := X29.leave (v := some (.int (1 : Int32))) (fun h => by rw [Bd.returns] at h; cases h)
  refine ⟨_, _, pre0 _ ?_, hrun, hended, _, _, rfl, ?_, ⟨_, rfl⟩, hW, hsame.mono (by decide) (by decide)⟩
  · show Steps p.tables e below (s₁.setTop (mkF m 0 #[.val (.int p0), .val (.int p1), .val (.int p2), .val (.int p3), .val (.int p4), .val (.int p5), .unset, .unset, .unset, .unset, .unset, .unset, .unset, .unset, .unset, .unset, .unset, .unset, .unset, .unset, .unset, .unset, .unset] [])) _
    refine XS.iload X0.here hx rfl (hb hby at_0) rfl ?_
    refine XS.sipush X0.here hx rfl (hb hby at_2) ?_
    refine XS.iand X0.here hx rfl (hb hby at_5) rfl ?_
    refine XS.iconst X0.here hx rfl (hb hby at_6) ?_
    refine XS.iadd X0.here hx rfl (hb hby at_7) rfl ?_
    show Steps p.tables e below (s₁.setTop (mkF m 8 #[.val (.int p0), .val (.int p1), .val (.int p2), .val (.int p3), .val (.int p4), .val (.int p5), .unset, .unset, .unset, .unset, .unset, .unset, .unset, .unset, .unset, .unset, .unset, .unset, .unset, .unset, .unset, .unset, .unset] [(.int ((p4 &&& (1023 : Int32)) + (1 : Int32)))])) _
    refine XS.i2l X0.here hx rfl (hb hby at_8) rfl ?_
    show Steps p.tables e below (s₁.setTop (mkF m 9 #[.val (.int p0), .val (.int p1), .val (.int p2), .val (.int p3), .val (.int p4), .val (.int p5), .unset, .unset, .unset, .unset, .unset, .unset, .unset, .unset, .unset, .unset, .unset, .unset, .unset, .unset, .unset, .unset, .unset] [(.long (((p4 &&& (1023 : Int32)) + (1 : Int32)).toInt64))])) _
    rw [hv8]
    show Steps p.tables e below (s₁.setTop (mkF m 9 #[.val (.int p0), .val (.int p1), .val (.int p2), .val (.int p3), .val (.int p4), .val (.int p5), .unset, .unset, .unset, .unset, .unset, .unset, .unset, .unset, .unset, .unset, .unset, .unset, .unset, .unset, .unset, .unset, .unset] [(.long wa)])) _
    refine XS.lstore X0.here hx rfl (hb hby at_9) rfl (l' := #[.val (.int p0), .val (.int p1), .val (.int p2), .val (.int p3), .val (.int p4), .val (.int p5), .val (.long wa), .second, .unset, .unset, .unset, .unset, .unset, .unset, .unset, .unset, .unset, .unset, .unset, .unset, .unset, .unset, .unset]) rfl ?_
    refine XS.iload X0.here hx rfl (hb hby at_11) rfl ?_
    refine XS.sipush X0.here hx rfl (hb hby at_13) ?_
    refine XS.iand X0.here hx rfl (hb hby at_16) rfl ?_
    show Steps p.tables e below (s₁.setTop (mkF m 17 #[.val (.int p0), .val (.int p1), .val (.int p2), .val (.int p3), .val (.int p4), .val (.int p5), .val (.long wa), .second, .unset, .unset, .unset, .unset, .unset, .unset, .unset, .unset, .unset, .unset, .unset, .unset, .unset, .unset, .unset] [(.int (p5 &&& (1023 : Int32)))])) _
    refine XS.iconst X0.here hx rfl (hb hby at_17) ?_
    refine XS.iadd X0.here hx rfl (hb hby at_18) rfl ?_
    refine XS.i2l X0.here hx rfl (hb hby at_19) rfl ?_
    show Steps p.tables e below (s₁.setTop (mkF m 20 #[.val (.int p0), .val (.int p1), .val (.int p2), .val (.int p3), .val (.int p4), .val (.int p5), .val (.long wa), .second, .unset, .unset, .unset, .unset, .unset, .unset, .unset, .unset, .unset, .unset, .unset, .unset, .unset, .unset, .unset] [(.long (((p5 &&& (1023 : Int32)) + (1 : Int32)).toInt64))])) _
    rw [hv19]
    show Steps p.tables e below (s₁.setTop (mkF m 20 #[.val (.int p0), .val (.int p1), .val (.int p2), .val (.int p3), .val (.int p4), .val (.int p5), .val (.long wa), .second, .unset, .unset, .unset, .unset, .unset, .unset, .unset, .unset, .unset, .unset, .unset, .unset, .unset, .unset, .unset] [(.long wb)])) _
    refine XS.lstore X0.here hx rfl (hb hby at_20) rfl (l' := #[.val (.int p0), .val (.int p1), .val (.int p2), .val (.int p3), .val (.int p4), .val (.int p5), .val (.long wa), .second, .val (.long wb), .second, .unset, .unset, .unset, .unset, .unset, .unset, .unset, .unset, .unset, .unset, .unset, .unset, .unset]) rfl ?_
    refine XS.iload X0.here hx rfl (hb hby at_22) rfl ?_
    show Steps p.tables e below (s₁.setTop (mkF m 24 #[.val (.int p0), .val (.int p1), .val (.int p2), .val (.int p3), .val (.int p4), .val (.int p5), .val (.long wa), .second, .val (.long wb), .second, .unset, .unset, .unset, .unset, .unset, .unset, .unset, .unset, .unset, .unset, .unset, .unset, .unset] [(.int p4)])) _
    refine XS.bipush X0.here hx rfl (hb hby at_24) ?_
    refine XS.iushr X0.here hx rfl (hb hby at_26) rfl ?_
    refine XS.iconst X0.here hx rfl (hb hby at_27) ?_
    refine XS.iand X0.here hx rfl (hb hby at_28) rfl ?_
    refine XS.ifNo X0.here hx rfl (hb hby at_29) rfl ((if0 _ _).trans (feq hc29).1) ?_
    refine XS.iconst X0.here hx rfl (hb hby at_32) ?_
    show Steps p.tables e below (s₁.setTop (mkF m 33 #[.val (.int p0), .val (.int p1), .val (.int p2), .val (.int p3), .val (.int p4), .val (.int p5), .val (.long wa), .second, .val (.long wb), .second, .unset, .unset, .unset, .unset, .unset, .unset, .unset, .unset, .unset, .unset, .unset, .unset, .unset] [(.int (1 : Int32))])) _
    refine XS.goto X0.here hx rfl (pc0 := 33) (pc' := 37) rfl (hb hby at_33) (by decide) (by decide) ?_
    refine XS.istore X0.here hx rfl (hb hby at_37) rfl (l' := #[.val (.int p0), .val (.int p1), .val (.int p2), .val (.int p3), .val (.int p4), .val (.int p5), .val (.long wa), .second, .val (.long wb), .second, .val (.int (1 : Int32)), .unset, .unset, .unset, .unset, .unset, .unset, .unset, .unset, .unset, .unset, .unset, .unset]) rfl ?_
    refine XS.iload X0.here hx rfl (hb hby at_39) rfl ?_
    refine XS.bipush X0.here hx rfl (hb hby at_41) ?_
    refine XS.iushr X0.here hx rfl (hb hby at_43) rfl ?_
    refine XS.iconst X0.here hx rfl (hb hby at_44) ?_
    show Steps p.tables e below (s₁.setTop (mkF m 45 #[.val (.int p0), .val (.int p1), .val (.int p2), .val (.int p3), .val (.int p4), .val (.int p5), .val (.long wa), .second, .val (.long wb), .second, .val (.int (1 : Int32)), .unset, .unset, .unset, .unset, .unset, .unset, .unset, .unset, .unset, .unset, .unset, .unset] [(.int (3 : Int32)), (.int ((p5.toUInt32 >>> ((10 : Int32) &&& 31).toUInt32).toInt32))])) _
    refine XS.iand X0.here hx rfl (hb hby at_45) rfl ?_
    refine XS.ifNo X0.here hx rfl (hb hby at_46) rfl ((if0 _ _).trans (feq hc46).1) ?_
    refine XS.iconst X0.here hx rfl (hb hby at_49) ?_
    refine XS.goto X0.here hx rfl (pc0 := 50) (pc' := 54) rfl (hb hby at_50) (by decide) (by decide) ?_
    refine XS.istore X0.here hx rfl (hb hby at_54) rfl (l' := #[.val (.int p0), .val (.int p1), .val (.int p2), .val (.int p3), .val (.int p4), .val (.int p5), .val (.long wa), .second, .val (.long wb), .second, .val (.int (1 : Int32)), .val (.int (1 : Int32)), .unset, .unset, .unset, .unset, .unset, .unset, .unset, .unset, .unset, .unset, .unset]) rfl ?_
    refine XS.iloadN X0.here hx rfl (hb hby at_56) rfl ?_
    show Steps p.tables e below (s₁.setTop (mkF m 57 #[.val (.int p0), .val (.int p1), .val (.int p2), .val (.int p3), .val (.int p4), .val (.int p5), .val (.long wa), .second, .val (.long wb), .second, .val (.int (1 : Int32)), .val (.int (1 : Int32)), .unset, .unset, .unset, .unset, .unset, .unset, .unset, .unset, .unset, .unset, .unset] [(.int p2)])) _
    refine XS.sipush X0.here hx rfl (hb hby at_57) ?_
    refine iremM (g := (mkF m 60 #[.val (.int p0), .val (.int p1), .val (.int p2), .val (.int p3), .val (.int p4), .val (.int p5), .val (.long wa), .second, .val (.long wb), .second, .val (.int (1 : Int32)), .val (.int (1 : Int32)), .unset, .unset, .unset, .unset, .unset, .unset, .unset, .unset, .unset, .unset, .unset] [(.int (1024 : Int32)), (.int p2)])) X0 hx rfl (hb hby at_60) rfl (by decide) ?_
    show Steps p.tables e below (s₁.setTop (mkF m 61 #[.val (.int p0), .val (.int p1), .val (.int p2), .val (.int p3), .val (.int p4), .val (.int p5), .val (.long wa), .second, .val (.long wb), .second, .val (.int (1 : Int32)), .val (.int (1 : Int32)), .unset, .unset, .unset, .unset, .unset, .unset, .unset, .unset, .unset, .unset, .unset] [(.int (p2 % (1024 : Int32)))])) _
    refine XS.i2l X0.here hx rfl (hb hby at_61) rfl ?_
    show Steps p.tables e below (s₁.setTop (mkF m 62 #[.val (.int p0), .val (.int p1), .val (.int p2), .val (.int p3), .val (.int p4), .val (.int p5), .val (.long wa), .second, .val (.long wb), .second, .val (.int (1 : Int32)), .val (.int (1 : Int32)), .unset, .unset, .unset, .unset, .unset, .unset, .unset, .unset, .unset, .unset, .unset] [(.long ((p2 % (1024 : Int32)).toInt64))])) _
    rw [hv61]
    show Steps p.tables e below (s₁.setTop (mkF m 62 #[.val (.int p0), .val (.int p1), .val (.int p2), .val (.int p3), .val (.int p4), .val (.int p5), .val (.long wa), .second, .val (.long wb), .second, .val (.int (1 : Int32)), .val (.int (1 : Int32)), .unset, .unset, .unset, .unset, .unset, .unset, .unset, .unset, .unset, .unset, .unset] [(.long ra)])) _
    refine XS.lstore X0.here hx rfl (hb hby at_62) rfl (l' := #[.val (.int p0), .val (.int p1), .val (.int p2), .val (.int p3), .val (.int p4), .val (.int p5), .val (.long wa), .second, .val (.long wb), .second, .val (.int (1 : Int32)), .val (.int (1 : Int32)), .val (.long ra), .second, .unset, .unset, .unset, .unset, .unset, .unset, .unset, .unset, .unset]) rfl ?_
    refine XS.iloadN X0.here hx rfl (hb hby at_64) rfl ?_
    show Steps p.tables e below (s₁.setTop (mkF m 65 #[.val (.int p0), .val (.int p1), .val (.int p2), .val (.int p3), .val (.int p4), .val (.int p5), .val (.long wa), .second, .val (.long wb), .second, .val (.int (1 : Int32)), .val (.int (1 : Int32)), .val (.long ra), .second, .unset, .unset, .unset, .unset, .unset, .unset, .unset, .unset, .unset] [(.int p3)])) _
    refine XS.sipush X0.here hx rfl (hb hby at_65) ?_
    refine iremM (g := (mkF m 68 #[.val (.int p0), .val (.int p1), .val (.int p2), .val (.int p3), .val (.int p4), .val (.int p5), .val (.long wa), .second, .val (.long wb), .second, .val (.int (1 : Int32)), .val (.int (1 : Int32)), .val (.long ra), .second, .unset, .unset, .unset, .unset, .unset, .unset, .unset, .unset, .unset] [(.int (1024 : Int32)), (.int p3)])) X0 hx rfl (hb hby at_68) rfl (by decide) ?_
    show Steps p.tables e below (s₁.setTop (mkF m 69 #[.val (.int p0), .val (.int p1), .val (.int p2), .val (.int p3), .val (.int p4), .val (.int p5), .val (.long wa), .second, .val (.long wb), .second, .val (.int (1 : Int32)), .val (.int (1 : Int32)), .val (.long ra), .second, .unset, .unset, .unset, .unset, .unset, .unset, .unset, .unset, .unset] [(.int (p3 % (1024 : Int32)))])) _
    refine XS.i2l X0.here hx rfl (hb hby at_69) rfl ?_
    show Steps p.tables e below (s₁.setTop (mkF m 70 #[.val (.int p0), .val (.int p1), .val (.int p2), .val (.int p3), .val (.int p4), .val (.int p5), .val (.long wa), .second, .val (.long wb), .second, .val (.int (1 : Int32)), .val (.int (1 : Int32)), .val (.long ra), .second, .unset, .unset, .unset, .unset, .unset, .unset, .unset, .unset, .unset] [(.long ((p3 % (1024 : Int32)).toInt64))])) _
    rw [hv69]
    show Steps p.tables e below (s₁.setTop (mkF m 70 #[.val (.int p0), .val (.int p1), .val (.int p2), .val (.int p3), .val (.int p4), .val (.int p5), .val (.long wa), .second, .val (.long wb), .second, .val (.int (1 : Int32)), .val (.int (1 : Int32)), .val (.long ra), .second, .unset, .unset, .unset, .unset, .unset, .unset, .unset, .unset, .unset] [(.long rb)])) _
    refine XS.lstore X0.here hx rfl (hb hby at_70) rfl (l' := #[.val (.int p0), .val (.int p1), .val (.int p2), .val (.int p3), .val (.int p4), .val (.int p5), .val (.long wa), .second, .val (.long wb), .second, .val (.int (1 : Int32)), .val (.int (1 : Int32)), .val (.long ra), .second, .val (.long rb), .second, .unset, .unset, .unset, .unset, .unset, .unset, .unset]) rfl ?_
    refine st1 _ ?_
    show Steps p.tables e below (T1.setTop (mkF m 75 #[.val (.int p0), .val (.int p1), .val (.int p2), .val (.int p3), .val (.int p4), .val (.int p5), .val (.long wa), .second, .val (.long wb), .second, .val (.int (1 : Int32)), .val (.int (1 : Int32)), .val (.long ra), .second, .val (.long rb), .second, .unset, .unset, .unset, .unset, .unset, .unset, .unset] [(.ref b1)])) _
    refine XS.dup X1.here hx rfl (hb hby at_75) rfl rfl ?_
    refine st2.trans ?_
    show Steps p.tables e below (T2.setTop (mkF m 79 #[.val (.int p0), .val (.int p1), .val (.int p2), .val (.int p3), .val (.int p4), .val (.int p5), .val (.long wa), .second, .val (.long wb), .second, .val (.int (1 : Int32)), .val (.int (1 : Int32)), .val (.long ra), .second, .val (.long rb), .second, .unset, .unset, .unset, .unset, .unset, .unset, .unset] [(.ref b1)])) _
    refine XS.astore X2.here hx rfl (hb hby at_79) rfl rfl (l' := #[.val (.int p0), .val (.int p1), .val (.int p2), .val (.int p3), .val (.int p4), .val (.int p5), .val (.long wa), .second, .val (.long wb), .second, .val (.int (1 : Int32)), .val (.int (1 : Int32)), .val (.long ra), .second, .val (.long rb), .second, .val (.ref b1), .unset, .unset, .unset, .unset, .unset, .unset]) rfl ?_
    refine XS.iload X2.here hx rfl (hb hby at_81) rfl ?_
    refine XS.ifNo X2.here hx rfl (hb hby at_83) rfl ((if0 _ _).trans (feq (by decide : ¬ ((1 : Int32) = (0 : Int32)))).1) ?_
    refine XS.aload X2.here hx rfl (hb hby at_86) rfl rfl ?_
    show Steps p.tables e below (T2.setTop (mkF m 88 #[.val (.int p0), .val (.int p1), .val (.int p2), .val (.int p3), .val (.int p4), .val (.int p5), .val (.long wa), .second, .val (.long wb), .second, .val (.int (1 : Int32)), .val (.int (1 : Int32)), .val (.long ra), .second, .val (.long rb), .second, .val (.ref b1), .unset, .unset, .unset, .unset, .unset, .unset] [(.ref b1)])) _
    refine XS.lload X2.here hx rfl (hb hby at_88) rfl ?_
    refine XS.l2dS X2.here hx rfl (hb hby at_90) rfl (v := (FP.l2d wa)) rfl ?_
    refine XS.lload X2.here hx rfl (hb hby at_91) rfl ?_
    refine XS.iloadN X2.here hx rfl (hb hby at_93) rfl ?_
    refine XS.i2l X2.here hx rfl (hb hby at_94) rfl ?_
    refine XS.lmul X2.here hx rfl (hb hby at_95) rfl ?_
    show Steps p.tables e below (T2.setTop (mkF m 96 #[.val (.int p0), .val (.int p1), .val (.int p2), .val (.int p3), .val (.int p4), .val (.int p5), .val (.long wa), .second, .val (.long wb), .second, .val (.int (1 : Int32)), .val (.int (1 : Int32)), .val (.long ra), .second, .val (.long rb), .second, .val (.ref b1), .unset, .unset, .unset, .unset, .unset, .unset] [(.long (ra * (p0.toInt64))), (.double (FP.l2d wa)), (.ref b1)])) _
    rw [hv95]
    show Steps p.tables e below (T2.setTop (mkF m 96 #[.val (.int p0), .val (.int p1), .val (.int p2), .val (.int p3), .val (.int p4), .val (.int p5), .val (.long wa), .second, .val (.long wb), .second, .val (.int (1 : Int32)), .val (.int (1 : Int32)), .val (.long ra), .second, .val (.long rb), .second, .val (.ref b1), .unset, .unset, .unset, .unset, .unset, .unset] [(.long xa), (.double (FP.l2d wa)), (.ref b1)])) _
    refine XS.l2dS X2.here hx rfl (hb hby at_96) rfl (v := (FP.l2d xa)) rfl ?_
    refine XS.iloadN X2.here hx rfl (hb hby at_97) rfl ?_
    refine XS.i2l X2.here hx rfl (hb hby at_98) rfl ?_
    refine st3.trans ?_
    show Steps p.tables e below (T3.setTop (mkF m 102 #[.val (.int p0), .val (.int p1), .val (.int p2), .val (.int p3), .val (.int p4), .val (.int p5), .val (.long wa), .second, .val (.long wb), .second, .val (.int (1 : Int32)), .val (.int (1 : Int32)), .val (.long ra), .second, .val (.long rb), .second, .val (.ref b1), .unset, .unset, .unset, .unset, .unset, .unset] [])) _
    refine XS.iload X3.here hx rfl (hb hby at_102) rfl ?_
    show Steps p.tables e below (T3.setTop (mkF m 104 #[.val (.int p0), .val (.int p1), .val (.int p2), .val (.int p3), .val (.int p4), .val (.int p5), .val (.long wa), .second, .val (.long wb), .second, .val (.int (1 : Int32)), .val (.int (1 : Int32)), .val (.long ra), .second, .val (.long rb), .second, .val (.ref b1), .unset, .unset, .unset, .unset, .unset, .unset] [(.int (1 : Int32))])) _
    refine XS.ifNo X3.here hx rfl (hb hby at_104) rfl ((if0 _ _).trans (feq (by decide : ¬ ((1 : Int32) = (0 : Int32)))).1) ?_
    refine XS.aload X3.here hx rfl (hb hby at_107) rfl rfl ?_
    refine XS.lload X3.here hx rfl (hb hby at_109) rfl ?_
    refine XS.l2dS X3.here hx rfl (hb hby at_111) rfl (v := (FP.l2d wb)) rfl ?_
    refine XS.lload X3.here hx rfl (hb hby at_112) rfl ?_
    refine XS.iloadN X3.here hx rfl (hb hby at_114) rfl ?_
    show Steps p.tables e below (T3.setTop (mkF m 115 #[.val (.int p0), .val (.int p1), .val (.int p2), .val (.int p3), .val (.int p4), .val (.int p5), .val (.long wa), .second, .val (.long wb), .second, .val (.int (1 : Int32)), .val (.int (1 : Int32)), .val (.long ra), .second, .val (.long rb), .second, .val (.ref b1), .unset, .unset, .unset, .unset, .unset, .unset] [(.int p1), (.long rb), (.double (FP.l2d wb)), (.ref b1)])) _
    refine XS.i2l X3.here hx rfl (hb hby at_115) rfl ?_
    refine XS.lmul X3.here hx rfl (hb hby at_116) rfl ?_
    show Steps p.tables e below (T3.setTop (mkF m 117 #[.val (.int p0), .val (.int p1), .val (.int p2), .val (.int p3), .val (.int p4), .val (.int p5), .val (.long wa), .second, .val (.long wb), .second, .val (.int (1 : Int32)), .val (.int (1 : Int32)), .val (.long ra), .second, .val (.long rb), .second, .val (.ref b1), .unset, .unset, .unset, .unset, .unset, .unset] [(.long (rb * (p1.toInt64))), (.double (FP.l2d wb)), (.ref b1)])) _
    rw [hv116]
    show Steps p.tables e below (T3.setTop (mkF m 117 #[.val (.int p0), .val (.int p1), .val (.int p2), .val (.int p3), .val (.int p4), .val (.int p5), .val (.long wa), .second, .val (.long wb), .second, .val (.int (1 : Int32)), .val (.int (1 : Int32)), .val (.long ra), .second, .val (.long rb), .second, .val (.ref b1), .unset, .unset, .unset, .unset, .unset, .unset] [(.long xb), (.double (FP.l2d wb)), (.ref b1)])) _
    refine XS.l2dS X3.here hx rfl (hb hby at_117) rfl (v := (FP.l2d xb)) rfl ?_
    refine XS.iloadN X3.here hx rfl (hb hby at_118) rfl ?_
    refine XS.i2l X3.here hx rfl (hb hby at_119) rfl ?_
    show Steps p.tables e below (T3.setTop (mkF m 120 #[.val (.int p0), .val (.int p1), .val (.int p2), .val (.int p3), .val (.int p4), .val (.int p5), .val (.long wa), .second, .val (.long wb), .second, .val (.int (1 : Int32)), .val (.int (1 : Int32)), .val (.long ra), .second, .val (.long rb), .second, .val (.ref b1), .unset, .unset, .unset, .unset, .unset, .unset] [(.long (p1.toInt64)), (.double (FP.l2d xb)), (.double (FP.l2d wb)), (.ref b1)])) _
    refine st16.trans ?_
    show Steps p.tables e below (T16.setTop (mkF m 123 #[.val (.int p0), .val (.int p1), .val (.int p2), .val (.int p3), .val (.int p4), .val (.int p5), .val (.long wa), .second, .val (.long wb), .second, .val (.int (1 : Int32)), .val (.int (1 : Int32)), .val (.long ra), .second, .val (.long rb), .second, .val (.ref b1), .unset, .unset, .unset, .unset, .unset, .unset] [])) _
    refine XS.lconst X16.here hx rfl (hb hby at_123) ?_
    refine XS.lstore X16.here hx rfl (hb hby at_124) rfl (l' := #[.val (.int p0), .val (.int p1), .val (.int p2), .val (.int p3), .val (.int p4), .val (.int p5), .val (.long wa), .second, .val (.long wb), .second, .val (.int (1 : Int32)), .val (.int (1 : Int32)), .val (.long ra), .second, .val (.long rb), .second, .val (.ref b1), .val (.long (0 : Int64)), .second, .unset, .unset, .unset, .unset]) rfl ?_
    refine XS.lconst X16.here hx rfl (hb hby at_126) ?_
    refine XS.lstore X16.here hx rfl (hb hby at_127) rfl (l' := #[.val (.int p0), .val (.int p1), .val (.int p2), .val (.int p3), .val (.int p4), .val (.int p5), .val (.long wa), .second, .val (.long wb), .second, .val (.int (1 : Int32)), .val (.int (1 : Int32)), .val (.long ra), .second, .val (.long rb), .second, .val (.ref b1), .val (.long (0 : Int64)), .second, .val (.long (0 : Int64)), .second, .unset, .unset]) rfl ?_
    refine XS.iload X16.here hx rfl (hb hby at_129) rfl ?_
    show Steps p.tables e below (T16.setTop (mkF m 131 #[.val (.int p0), .val (.int p1), .val (.int p2), .val (.int p3), .val (.int p4), .val (.int p5), .val (.long wa), .second, .val (.long wb), .second, .val (.int (1 : Int32)), .val (.int (1 : Int32)), .val (.long ra), .second, .val (.long rb), .second, .val (.ref b1), .val (.long (0 : Int64)), .second, .val (.long (0 : Int64)), .second, .unset, .unset] [(.int (1 : Int32))])) _
    refine XS.ifNo X16.here hx rfl (hb hby at_131) rfl ((if0 _ _).trans (feq (by decide : ¬ ((1 : Int32) = (0 : Int32)))).1) ?_
    refine XS.iloadN X16.here hx rfl (hb hby at_134) rfl ?_
    refine XS.ifNo X16.here hx rfl (hb hby at_135) rfl ((if0 _ _).trans (tlt hc135).2.2.2) ?_
    refine XS.lload X16.here hx rfl (hb hby at_138) rfl ?_
    refine XS.lload X16.here hx rfl (hb hby at_140) rfl ?_
    refine XS.ladd X16.here hx rfl (hb hby at_142) rfl ?_
    show Steps p.tables e below (T16.setTop (mkF m 143 #[.val (.int p0), .val (.int p1), .val (.int p2), .val (.int p3), .val (.int p4), .val (.int p5), .val (.long wa), .second, .val (.long wb), .second, .val (.int (1 : Int32)), .val (.int (1 : Int32)), .val (.long ra), .second, .val (.long rb), .second, .val (.ref b1), .val (.long (0 : Int64)), .second, .val (.long (0 : Int64)), .second, .unset, .unset] [(.long ((0 : Int64) + wa))])) _
    rw [hv142]
    show Steps p.tables e below (T16.setTop (mkF m 143 #[.val (.int p0), .val (.int p1), .val (.int p2), .val (.int p3), .val (.int p4), .val (.int p5), .val (.long wa), .second, .val (.long wb), .second, .val (.int (1 : Int32)), .val (.int (1 : Int32)), .val (.long ra), .second, .val (.long rb), .second, .val (.ref b1), .val (.long (0 : Int64)), .second, .val (.long (0 : Int64)), .second, .unset, .unset] [(.long pA)])) _
    refine XS.lstore X16.here hx rfl (hb hby at_143) rfl (l' := #[.val (.int p0), .val (.int p1), .val (.int p2), .val (.int p3), .val (.int p4), .val (.int p5), .val (.long wa), .second, .val (.long wb), .second, .val (.int (1 : Int32)), .val (.int (1 : Int32)), .val (.long ra), .second, .val (.long rb), .second, .val (.ref b1), .val (.long pA), .second, .val (.long (0 : Int64)), .second, .unset, .unset]) rfl ?_
    refine XS.lload X16.here hx rfl (hb hby at_145) rfl ?_
    refine XS.lload X16.here hx rfl (hb hby at_147) rfl ?_
    refine XS.lload X16.here hx rfl (hb hby at_149) rfl ?_
    refine XS.lmul X16.here hx rfl (hb hby at_151) rfl ?_
    show Steps p.tables e below (T16.setTop (mkF m 152 #[.val (.int p0), .val (.int p1), .val (.int p2), .val (.int p3), .val (.int p4), .val (.int p5), .val (.long wa), .second, .val (.long wb), .second, .val (.int (1 : Int32)), .val (.int (1 : Int32)), .val (.long ra), .second, .val (.long rb), .second, .val (.ref b1), .val (.long pA), .second, .val (.long (0 : Int64)), .second, .unset, .unset] [(.long (wa * ra)), (.long (0 : Int64))])) _
    refine XS.ladd X16.here hx rfl (hb hby at_152) rfl ?_
    show Steps p.tables e below (T16.setTop (mkF m 153 #[.val (.int p0), .val (.int p1), .val (.int p2), .val (.int p3), .val (.int p4), .val (.int p5), .val (.long wa), .second, .val (.long wb), .second, .val (.int (1 : Int32)), .val (.int (1 : Int32)), .val (.long ra), .second, .val (.long rb), .second, .val (.ref b1), .val (.long pA), .second, .val (.long (0 : Int64)), .second, .unset, .unset] [(.long ((0 : Int64) + (wa * ra)))])) _
    rw [hv152]
    show Steps p.tables e below (T16.setTop (mkF m 153 #[.val (.int p0), .val (.int p1), .val (.int p2), .val (.int p3), .val (.int p4), .val (.int p5), .val (.long wa), .second, .val (.long wb), .second, .val (.int (1 : Int32)), .val (.int (1 : Int32)), .val (.long ra), .second, .val (.long rb), .second, .val (.ref b1), .val (.long pA), .second, .val (.long (0 : Int64)), .second, .unset, .unset] [(.long nA)])) _
    refine XS.lstore X16.here hx rfl (hb hby at_153) rfl (l' := #[.val (.int p0), .val (.int p1), .val (.int p2), .val (.int p3), .val (.int p4), .val (.int p5), .val (.long wa), .second, .val (.long wb), .second, .val (.int (1 : Int32)), .val (.int (1 : Int32)), .val (.long ra), .second, .val (.long rb), .second, .val (.ref b1), .val (.long pA), .second, .val (.long nA), .second, .unset, .unset]) rfl ?_
    refine XS.iload X16.here hx rfl (hb hby at_155) rfl ?_
    refine XS.ifNo X16.here hx rfl (hb hby at_157) rfl ((if0 _ _).trans (feq (by decide : ¬ ((1 : Int32) = (0 : Int32)))).1) ?_
    refine XS.iloadN X16.here hx rfl (hb hby at_160) rfl ?_
    show Steps p.tables e below (T16.setTop (mkF m 161 #[.val (.int p0), .val (.int p1), .val (.int p2), .val (.int p3), .val (.int p4), .val (.int p5), .val (.long wa), .second, .val (.long wb), .second, .val (.int (1 : Int32)), .val (.int (1 : Int32)), .val (.long ra), .second, .val (.long rb), .second, .val (.ref b1), .val (.long pA), .second, .val (.long nA), .second, .unset, .unset] [(.int p1)])) _
    refine XS.ifNo X16.here hx rfl (hb hby at_161) rfl ((if0 _ _).trans (tlt hc161).2.2.2) ?_
    refine XS.lload X16.here hx rfl (hb hby at_164) rfl ?_
    refine XS.lload X16.here hx rfl (hb hby at_166) rfl ?_
    refine XS.ladd X16.here hx rfl (hb hby at_168) rfl ?_
    show Steps p.tables e below (T16.setTop (mkF m 169 #[.val (.int p0), .val (.int p1), .val (.int p2), .val (.int p3), .val (.int p4), .val (.int p5), .val (.long wa), .second, .val (.long wb), .second, .val (.int (1 : Int32)), .val (.int (1 : Int32)), .val (.long ra), .second, .val (.long rb), .second, .val (.ref b1), .val (.long pA), .second, .val (.long nA), .second, .unset, .unset] [(.long (pA + wb))])) _
    rw [hv168]
    show Steps p.tables e below (T16.setTop (mkF m 169 #[.val (.int p0), .val (.int p1), .val (.int p2), .val (.int p3), .val (.int p4), .val (.int p5), .val (.long wa), .second, .val (.long wb), .second, .val (.int (1 : Int32)), .val (.int (1 : Int32)), .val (.long ra), .second, .val (.long rb), .second, .val (.ref b1), .val (.long pA), .second, .val (.long nA), .second, .unset, .unset] [(.long pB)])) _
    refine XS.lstore X16.here hx rfl (hb hby at_169) rfl (l' := #[.val (.int p0), .val (.int p1), .val (.int p2), .val (.int p3), .val (.int p4), .val (.int p5), .val (.long wa), .second, .val (.long wb), .second, .val (.int (1 : Int32)), .val (.int (1 : Int32)), .val (.long ra), .second, .val (.long rb), .second, .val (.ref b1), .val (.long pB), .second, .val (.long nA), .second, .unset, .unset]) rfl ?_
    show Steps p.tables e below (T16.setTop (mkF m 171 #[.val (.int p0), .val (.int p1), .val (.int p2), .val (.int p3), .val (.int p4), .val (.int p5), .val (.long wa), .second, .val (.long wb), .second, .val (.int (1 : Int32)), .val (.int (1 : Int32)), .val (.long ra), .second, .val (.long rb), .second, .val (.ref b1), .val (.long pB), .second, .val (.long nA), .second, .unset, .unset] [])) _
    refine XS.lload X16.here hx rfl (hb hby at_171) rfl ?_
    refine XS.lload X16.here hx rfl (hb hby at_173) rfl ?_
    refine XS.lload X16.here hx rfl (hb hby at_175) rfl ?_
    refine XS.lmul X16.here hx rfl (hb hby at_177) rfl ?_
    refine XS.ladd X16.here hx rfl (hb hby at_178) rfl ?_
    show Steps p.tables e below (T16.setTop (mkF m 179 #[.val (.int p0), .val (.int p1), .val (.int p2), .val (.int p3), .val (.int p4), .val (.int p5), .val (.long wa), .second, .val (.long wb), .second, .val (.int (1 : Int32)), .val (.int (1 : Int32)), .val (.long ra), .second, .val (.long rb), .second, .val (.ref b1), .val (.long pB), .second, .val (.long nA), .second, .unset, .unset] [(.long (nA + (wb * rb)))])) _
    rw [hv178]
    show Steps p.tables e below (T16.setTop (mkF m 179 #[.val (.int p0), .val (.int p1), .val (.int p2), .val (.int p3), .val (.int p4), .val (.int p5), .val (.long wa), .second, .val (.long wb), .second, .val (.int (1 : Int32)), .val (.int (1 : Int32)), .val (.long ra), .second, .val (.long rb), .second, .val (.ref b1), .val (.long pB), .second, .val (.long nA), .second, .unset, .unset] [(.long nB)])) _
    refine XS.lstore X16.here hx rfl (hb hby at_179) rfl (l' := #[.val (.int p0), .val (.int p1), .val (.int p2), .val (.int p3), .val (.int p4), .val (.int p5), .val (.long wa), .second, .val (.long wb), .second, .val (.int (1 : Int32)), .val (.int (1 : Int32)), .val (.long ra), .second, .val (.long rb), .second, .val (.ref b1), .val (.long pB), .second, .val (.long nB), .second, .unset, .unset]) rfl ?_
    refine XS.aload X16.here hx rfl (hb hby at_181) rfl rfl ?_
    refine st29.trans ?_
    show Steps p.tables e below (T29.setTop (mkF m 186 #[.val (.int p0), .val (.int p1), .val (.int p2), .val (.int p3), .val (.int p4), .val (.int p5), .val (.long wa), .second, .val (.long wb), .second, .val (.int (1 : Int32)), .val (.int (1 : Int32)), .val (.long ra), .second, .val (.long rb), .second, .val (.ref b1), .val (.long pB), .second, .val (.long nB), .second, .unset, .unset] [(.double (FP.ddiv wr2 pw2))])) _
    refine XS.dstore X29.here hx rfl (hb hby at_186) rfl (l' := #[.val (.int p0), .val (.int p1), .val (.int p2), .val (.int p3), .val (.int p4), .val (.int p5), .val (.long wa), .second, .val (.long wb), .second, .val (.int (1 : Int32)), .val (.int (1 : Int32)), .val (.long ra), .second, .val (.long rb), .second, .val (.ref b1), .val (.long pB), .second, .val (.long nB), .second, .val (.double (FP.ddiv wr2 pw2)), .second]) rfl ?_
    refine XS.lload X29.here hx rfl (hb hby at_188) rfl ?_
    refine XS.lconst X29.here hx rfl (hb hby at_190) ?_
    show Steps p.tables e below (T29.setTop (mkF m 191 #[.val (.int p0), .val (.int p1), .val (.int p2), .val (.int p3), .val (.int p4), .val (.int p5), .val (.long wa), .second, .val (.long wb), .second, .val (.int (1 : Int32)), .val (.int (1 : Int32)), .val (.long ra), .second, .val (.long rb), .second, .val (.ref b1), .val (.long pB), .second, .val (.long nB), .second, .val (.double (FP.ddiv wr2 pw2)), .second] [(.long (0 : Int64)), (.long pB)])) _
    refine XS.lcmp X29.here hx rfl (hb hby at_191) rfl ?_
    refine XS.ifYes X29.here hx rfl (pc0 := 192) (pc' := 209) rfl (hb hby at_192) rfl ((if0 _ _).trans (feq hc192).2) (by decide) (by decide) ?_
    refine XS.dload X29.here hx rfl (hb hby at_209) rfl ?_
    refine XS.lload X29.here hx rfl (hb hby at_211) rfl ?_
    refine XS.l2dS X29.here hx rfl (hb hby at_213) rfl (v := (FP.l2d nB)) rfl ?_
    refine XS.lload X29.here hx rfl (hb hby at_214) rfl ?_
    show Steps p.tables e below (T29.setTop (mkF m 216 #[.val (.int p0), .val (.int p1), .val (.int p2), .val (.int p3), .val (.int p4), .val (.int p5), .val (.long wa), .second, .val (.long wb), .second, .val (.int (1 : Int32)), .val (.int (1 : Int32)), .val (.long ra), .second, .val (.long rb), .second, .val (.ref b1), .val (.long pB), .second, .val (.long nB), .second, .val (.double (FP.ddiv wr2 pw2)), .second] [(.long pB), (.double (FP.l2d nB)), (.double (FP.ddiv wr2 pw2))])) _
    refine XS.l2dS X29.here hx rfl (hb hby at_216) rfl (v := (FP.l2d pB)) rfl ?_
    refine XS.ddivS X29.here hx rfl (hb hby at_217) rfl nn217 (v := (FP.ddiv (FP.l2d nB) (FP.l2d pB))) rfl ?_
    refine XS.dcmpS X29.here hx rfl (hb hby at_218) rfl (v := (0 : Int32)) hd218 ?_
    refine XS.ifNo X29.here hx rfl (hb hby at_219) rfl ((if0 _ _).trans (teq (by decide : (0 : Int32) = (0 : Int32))).2) ?_
    refine XS.iconst X29.here hx rfl (hb hby at_222) ?_
    refine XS.goto X29.here hx rfl (pc0 := 223) (pc' := 227) rfl (hb hby at_223) (by decide) (by decide) ?_
    show Steps p.tables e below (T29.setTop (mkF m 227 #[.val (.int p0), .val (.int p1), .val (.int p2), .val (.int p3), .val (.int p4), .val (.int p5), .val (.long wa), .second, .val (.long wb), .second, .val (.int (1 : Int32)), .val (.int (1 : Int32)), .val (.long ra), .second, .val (.long rb), .second, .val (.ref b1), .val (.long pB), .second, .val (.long nB), .second, .val (.double (FP.ddiv wr2 pw2)), .second] [(.int (1 : Int32))])) _
    exact retN X29 hx (t := .boolean) Bd.returns (by simp) (hb hby at_227) hr
  · show Q0 n0 _ T29.heap _
    rw [e29]
    exact ⟨rfl, N29⟩
set_option maxRecDepth 65536 in
set_option maxHeartbeats 40000000 in
theorem rm0_pz (l : Launch) (Z : State) (a0 : Array Value) (hw : ∀ d ∈ tables_1, d.before a0 Z = true) (ws : List Jvm.Cond) (p0 : Int32) (p1 : Int32) (p2 : Int32) (p3 : Int32) (p4 : Int32) (p5 : Int32) (ob1 : UInt64) (pb1 : UInt64) (w1 : UInt64) (so1 : UInt64) (sp1 : UInt64) (oa1 : UInt64) (pa1 : UInt64) (ma1 : UInt64) (mb1 : UInt64) (mc1 : UInt64) (pw1 : UInt64) (wr1 : UInt64) (ob2 : UInt64) (pb2 : UInt64) (w2 : UInt64) (so2 : UInt64) (sp2 : UInt64) (oa2 : UInt64) (pa2 : UInt64) (ma2 : UInt64) (mb2 : UInt64) (mc2 : UInt64) (zw2 : UInt64) (wa : Int64) (wb : Int64) (ra : Int64) (rb : Int64) (xa : Int64) (xb : Int64) (pA : Int64) (nA : Int64) (h0 : Heap) (n0 : Nat) (Z0 : n0 ≤ h0.size) (hv8 : (((p4 &&& (1023 : Int32)) + (1 : Int32)).toInt64) = wa) (hv19 : (((p5 &&& (1023 : Int32)) + (1 : Int32)).toInt64) = wb) (hc29 : ¬ ((((p4.toUInt32 >>> ((10 : Int32) &&& 31).toUInt32).toInt32) &&& (3 : Int32)) = (0 : Int32))) (hc46 : ¬ ((((p5.toUInt32 >>> ((10 : Int32) &&& 31).toUInt32).toInt32) &&& (3 : Int32)) = (0 : Int32))) (hv61 : ((p2 % (1024 : Int32)).toInt64) = ra) (hv69 : ((p3 % (1024 : Int32)).toInt64) = rb) (hv95 : (ra * (p0.toInt64)) = xa) (nn5_99 : Jvm.Free.Fl.NoNaN64 (FP.dsub (FP.l2d xa) (0 : UInt64))) (hq5_99 : (FP.dsub (FP.l2d xa) (0 : UInt64)) = ob1) (nn15_99 : Jvm.Free.Fl.NoNaN64 (FP.dsub (FP.l2d (p0.toInt64)) (0 : UInt64))) (hq15_99 : (FP.dsub (FP.l2d (p0.toInt64)) (0 : UInt64)) = pb1) (nn34_99 : Jvm.Free.Fl.NoNaN64 (FP.dadd (0 : UInt64) (FP.l2d wa))) (hq34_99 : (FP.dadd (0 : UInt64) (FP.l2d wa)) = w1) (nn45_99 : Jvm.Free.Fl.NoNaN64 (FP.dmul (FP.l2d wa) (FP.l2d xa))) (nn46_99 : Jvm.Free.Fl.NoNaN64 (FP.dadd (0 : UInt64) (FP.dmul (FP.l2d wa) (FP.l2d xa)))) (hq46_99 : (FP.dadd (0 : UInt64) (FP.dmul (FP.l2d wa) (FP.l2d xa))) = so1) (nn59_99 : Jvm.Free.Fl.NoNaN64 (FP.dmul (FP.l2d wa) (FP.l2d (p0.toInt64)))) (nn60_99 : Jvm.Free.Fl.NoNaN64 (FP.dadd (0 : UInt64) (FP.dmul (FP.l2d wa) (FP.l2d (p0.toInt64))))) (hq60_99 : (FP.dadd (0 : UInt64) (FP.dmul (FP.l2d wa) (FP.l2d (p0.toInt64)))) = sp1) (nn21_66_99 : Jvm.Free.Fl.NoNaN64 (FP.ddiv so1 w1)) (nn69_99 : Jvm.Free.Fl.NoNaN64 (FP.dsub (FP.l2d xa) (FP.ddiv so1 w1))) (hq69_99 : (FP.dsub (FP.l2d xa) (FP.ddiv so1 w1)) = oa1) (nn21_76_99 : Jvm.Free.Fl.NoNaN64 (FP.ddiv sp1 w1)) (nn79_99 : Jvm.Free.Fl.NoNaN64 (FP.dsub (FP.l2d (p0.toInt64)) (FP.ddiv sp1 w1))) (hq79_99 : (FP.dsub (FP.l2d (p0.toInt64)) (FP.ddiv sp1 w1)) = pa1) (nn90_99 : Jvm.Free.Fl.NoNaN64 (FP.dmul (FP.l2d wa) ob1)) (nn93_99 : Jvm.Free.Fl.NoNaN64 (FP.dmul (FP.dmul (FP.l2d wa) ob1) oa1)) (nn94_99 : Jvm.Free.Fl.NoNaN64 (FP.dadd (0 : UInt64) (FP.dmul (FP.dmul (FP.l2d wa) ob1) oa1))) (hq94_99 : (FP.dadd (0 : UInt64) (FP.dmul (FP.dmul (FP.l2d wa) ob1) oa1)) = ma1) (nn106_99 : Jvm.Free.Fl.NoNaN64 (FP.dmul (FP.l2d wa) pb1)) (nn109_99 : Jvm.Free.Fl.NoNaN64 (FP.dmul (FP.dmul (FP.l2d wa) pb1) pa1)) (nn110_99 : Jvm.Free.Fl.NoNaN64 (FP.dadd (0 : UInt64) (FP.dmul (FP.dmul (FP.l2d wa) pb1) pa1))) (hq110_99 : (FP.dadd (0 : UInt64) (FP.dmul (FP.dmul (FP.l2d wa) pb1) pa1)) = mb1) (nn122_99 : Jvm.Free.Fl.NoNaN64 (FP.dmul (FP.l2d wa) ob1)) (nn125_99 : Jvm.Free.Fl.NoNaN64 (FP.dmul (FP.dmul (FP.l2d wa) ob1) pa1)) (nn126_99 : Jvm.Free.Fl.NoNaN64 (FP.dadd (0 : UInt64) (FP.dmul (FP.dmul (FP.l2d wa) ob1) pa1))) (hq126_99 : (FP.dadd (0 : UInt64) (FP.dmul (FP.dmul (FP.l2d wa) ob1) pa1)) = mc1) (hc134_99 : (0 : Int32) < (lcmpW (p0.toInt64) (0 : Int64))) (nn143_99 : Jvm.Free.Fl.NoNaN64 (FP.dadd (0 : UInt64) (FP.l2d wa))) (hq143_99 : (FP.dadd (0 : UInt64) (FP.l2d wa)) = pw1) (nn157_99 : Jvm.Free.Fl.NoNaN64 (FP.ddiv (FP.l2d xa) (FP.l2d (p0.toInt64)))) (nn158_99 : Jvm.Free.Fl.NoNaN64 (FP.dmul (FP.l2d wa) (FP.ddiv (FP.l2d xa) (FP.l2d (p0.toInt64))))) (nn159_99 : Jvm.Free.Fl.NoNaN64 (FP.dadd (0 : UInt64) (FP.dmul (FP.l2d wa) (FP.ddiv (FP.l2d xa) (FP.l2d (p0.toInt64)))))) (hq159_99 : (FP.dadd (0 : UInt64) (FP.dmul (FP.l2d wa) (FP.ddiv (FP.l2d xa) (FP.l2d (p0.toInt64))))) = wr1) (hv116 : (rb * (p1.toInt64)) = xb) (nn21_2_120 : Jvm.Free.Fl.NoNaN64 (FP.ddiv so1 w1)) (nn5_120 : Jvm.Free.Fl.NoNaN64 (FP.dsub (FP.l2d xb) (FP.ddiv so1 w1))) (hq5_120 : (FP.dsub (FP.l2d xb) (FP.ddiv so1 w1)) = ob2) (nn21_12_120 : Jvm.Free.Fl.NoNaN64 (FP.ddiv sp1 w1)) (nn15_120 : Jvm.Free.Fl.NoNaN64 (FP.dsub (FP.l2d (p1.toInt64)) (FP.ddiv sp1 w1))) (hq15_120 : (FP.dsub (FP.l2d (p1.toInt64)) (FP.ddiv sp1 w1)) = pb2) (nn34_120 : Jvm.Free.Fl.NoNaN64 (FP.dadd w1 (FP.l2d wb))) (hq34_120 : (FP.dadd w1 (FP.l2d wb)) = w2) (nn45_120 : Jvm.Free.Fl.NoNaN64 (FP.dmul (FP.l2d wb) (FP.l2d xb))) (nn46_120 : Jvm.Free.Fl.NoNaN64 (FP.dadd so1 (FP.dmul (FP.l2d wb) (FP.l2d xb)))) (hq46_120 : (FP.dadd so1 (FP.dmul (FP.l2d wb) (FP.l2d xb))) = so2) (nn59_120 : Jvm.Free.Fl.NoNaN64 (FP.dmul (FP.l2d wb) (FP.l2d (p1.toInt64)))) (nn60_120 : Jvm.Free.Fl.NoNaN64 (FP.dadd sp1 (FP.dmul (FP.l2d wb) (FP.l2d (p1.toInt64))))) (hq60_120 : (FP.dadd sp1 (FP.dmul (FP.l2d wb) (FP.l2d (p1.toInt64)))) = sp2) (nn21_66_120 : Jvm.Free.Fl.NoNaN64 (FP.ddiv so2 w2)) (nn69_120 : Jvm.Free.Fl.NoNaN64 (FP.dsub (FP.l2d xb) (FP.ddiv so2 w2))) (hq69_120 : (FP.dsub (FP.l2d xb) (FP.ddiv so2 w2)) = oa2) (nn21_76_120 : Jvm.Free.Fl.NoNaN64 (FP.ddiv sp2 w2)) (nn79_120 : Jvm.Free.Fl.NoNaN64 (FP.dsub (FP.l2d (p1.toInt64)) (FP.ddiv sp2 w2))) (hq79_120 : (FP.dsub (FP.l2d (p1.toInt64)) (FP.ddiv sp2 w2)) = pa2) (nn90_120 : Jvm.Free.Fl.NoNaN64 (FP.dmul (FP.l2d wb) ob2)) (nn93_120 : Jvm.Free.Fl.NoNaN64 (FP.dmul (FP.dmul (FP.l2d wb) ob2) oa2)) (nn94_120 : Jvm.Free.Fl.NoNaN64 (FP.dadd ma1 (FP.dmul (FP.dmul (FP.l2d wb) ob2) oa2))) (hq94_120 : (FP.dadd ma1 (FP.dmul (FP.dmul (FP.l2d wb) ob2) oa2)) = ma2) (nn106_120 : Jvm.Free.Fl.NoNaN64 (FP.dmul (FP.l2d wb) pb2)) (nn109_120 : Jvm.Free.Fl.NoNaN64 (FP.dmul (FP.dmul (FP.l2d wb) pb2) pa2)) (nn110_120 : Jvm.Free.Fl.NoNaN64 (FP.dadd mb1 (FP.dmul (FP.dmul (FP.l2d wb) pb2) pa2))) (hq110_120 : (FP.dadd mb1 (FP.dmul (FP.dmul (FP.l2d wb) pb2) pa2)) = mb2) (nn122_120 : Jvm.Free.Fl.NoNaN64 (FP.dmul (FP.l2d wb) ob2)) (nn125_120 : Jvm.Free.Fl.NoNaN64 (FP.dmul (FP.dmul (FP.l2d wb) ob2) pa2)) (nn126_120 : Jvm.Free.Fl.NoNaN64 (FP.dadd mc1 (FP.dmul (FP.dmul (FP.l2d wb) ob2) pa2))) (hq126_120 : (FP.dadd mc1 (FP.dmul (FP.dmul (FP.l2d wb) ob2) pa2)) = mc2) (hc134_120 : ¬ ((0 : Int32) < (lcmpW (p1.toInt64) (0 : Int64)))) (nn172_120 : Jvm.Free.Fl.NoNaN64 (FP.dadd (0 : UInt64) (FP.l2d wb))) (hq172_120 : (FP.dadd (0 : UInt64) (FP.l2d wb)) = zw2) (hc135 : (0 : Int32) < p0) (hv142 : ((0 : Int64) + wa) = pA) (hv152 : ((0 : Int64) + (wa * ra)) = nA) (hc161 : ¬ ((0 : Int32) < p1)) (hd5_183 : (cmpValue (FP.dcmp pw1 (0 : UInt64)) .l) = (1 : Int32)) (nn23_183 : Jvm.Free.Fl.NoNaN64 (FP.ddiv wr1 pw1)) (hc192 : ¬ ((lcmpW pA (0 : Int64)) = (0 : Int32))) (nn217 : Jvm.Free.Fl.NoNaN64 (FP.ddiv (FP.l2d nA) (FP.l2d pA))) (hd218 : (cmpValue (FP.dcmp (FP.ddiv wr1 pw1) (FP.ddiv (FP.l2d nA) (FP.l2d pA))) .l) = (0 : Int32)) :
    MetFree l x (head1 (Jvm.Cond.code x code maxLocals ret :: ws) room_1) (fun a U => a = #[(.int p0), (.int p1), (.int p2), (.int p3), (.int p4), (.int p5)] ∧ Z.Warmed39 U.vm ∧ U.heap = h0) (fun _ _ _ _ _ => True) (fun _ U o U' => ∃ v L, o = .returned v ∧ Q0 n0 v U'.heap L ∧ FrameEnd U o U' L room_1.cells room_1.slots) := by
  refine MetFree.of_bodySF (plainFor_of_name pn_com_example_arrivals_arrivals_core_SequenceStatisticsExpectedRatioPinLaw) hisR ?_
  intro p e s m args below meth c s₁ Bd hml0 hP hK
  obtain ⟨rfl, hZ, hh⟩ := hP
  have hx := Bd.exec
  have hby := Bd.bytes
  have hml : c.maxLocals = 23 := hml0
  have hown : s.vm.findClass "com/example/arrivals/arrivals/core/SequenceStatisticsExpectedRatioPinLaw" = some m.cls := findClass_of_methodNamed Bd.named
  have hnm := (name_of_methodNamed Bd.named Bd.method).1
  have X0 : Stand p l e room_1 s m #[(.int p0), (.int p1), (.int p2), (.int p3), (.int p4), (.int p5)] below meth c s₁ [] 0 0 := Stand.of_body Bd
  have e0 : s₁.heap = h0 := by rw [← hh, Bd.state]; rfl
  have N0 := Fr.nil n0
  have pre0 : ∀ t, Steps p.tables e below (s₁.setTop (mkF m 0 #[.val (.int p0), .val (.int p1), .val (.int p2), .val (.int p3), .val (.int p4), .val (.int p5), .unset, .unset, .unset, .unset, .unset, .unset, .unset, .unset, .unset, .unset, .unset, .unset, .unset, .unset, .unset, .unset, .unset] [])) t → Steps p.tables e below (s₁.setTop (entryFrame m #[(.int p0), (.int p1), (.int p2), (.int p3), (.int p4), (.int p5)] maxLocals)) t := fun t k => castTop (ef_0_IIIIII m p0 p1 p2 p3 p4 p5) k
  obtain ⟨T1, h1, X1, e1, E1, A1, D1, -, st1⟩ := newO X0 hx hZ hown (hw _ (List.mem_of_getElem? (i := 0) rfl)) (hw _ (List.mem_of_getElem? (i := 1) rfl)) (hw _ (List.mem_of_getElem? (i := 2) rfl)) e0 (g := (mkF m 72 #[.val (.int p0), .val (.int p1), .val (.int p2), .val (.int p3), .val (.int p4), .val (.int p5), .val (.long wa), .second, .val (.long wb), .second, .val (.int (1 : Int32)), .val (.int (1 : Int32)), .val (.long ra), .second, .val (.long rb), .second, .unset, .unset, .unset, .unset, .unset, .unset, .unset] [])) rfl (hb hby at_72) (by decide) (by decide)
  obtain ⟨b1, g1⟩ : ∃ z, z = h0.size := ⟨_, rfl⟩
  rw [← g1] at A1 D1 st1
  have g_b1 : n0 ≤ b1 := Nat.le_trans Z0 (Nat.le_of_eq g1.symm)
  have sz_b1 : h0.size ≤ b1 := Nat.le_trans (Keep.refl h0 []).1 (Nat.le_of_eq g1.symm)
  have K1 : Keep h0 h1 [] := (Keep.refl h0 []).ext E1
  have Zs1 := Nat.le_trans Z0 E1.1
  have F1_positiveWeight : Fld Z h1 b1 "com/example/arrivals/arrivals/core/SequenceStatistics" "positiveWeight" "D" (.double (0 : UInt64)) := D1 (Or.inl (hw _ (List.mem_of_getElem? (i := 15) rfl))) (ty := .double) (by decide)
  have F1_count : Fld Z h1 b1 "com/example/arrivals/arrivals/core/SequenceStatistics" "count" "J" (.long (0 : Int64)) := D1 (Or.inl (hw _ (List.mem_of_getElem? (i := 28) rfl))) (ty := .long) (by decide)
  have F1_weight : Fld Z h1 b1 "com/example/arrivals/arrivals/core/SequenceStatistics" "weight" "D" (.double (0 : UInt64)) := D1 (Or.inl (hw _ (List.mem_of_getElem? (i := 35) rfl))) (ty := .double) (by decide)
  have F1_sumOnline : Fld Z h1 b1 "com/example/arrivals/arrivals/core/SequenceStatistics" "sumOnline" "D" (.double (0 : UInt64)) := D1 (Or.inl (hw _ (List.mem_of_getElem? (i := 37) rfl))) (ty := .double) (by decide)
  have F1_sumOptimum : Fld Z h1 b1 "com/example/arrivals/arrivals/core/SequenceStatistics" "sumOptimum" "D" (.double (0 : UInt64)) := D1 (Or.inl (hw _ (List.mem_of_getElem? (i := 39) rfl))) (ty := .double) (by decide)
  have F1_comomentOnline : Fld Z h1 b1 "com/example/arrivals/arrivals/core/SequenceStatistics" "comomentOnline" "D" (.double (0 : UInt64)) := D1 (Or.inl (hw _ (List.mem_of_getElem? (i := 41) rfl))) (ty := .double) (by decide)
  have F1_comomentOptimum : Fld Z h1 b1 "com/example/arrivals/arrivals/core/SequenceStatistics" "comomentOptimum" "D" (.double (0 : UInt64)) := D1 (Or.inl (hw _ (List.mem_of_getElem? (i := 43) rfl))) (ty := .double) (by decide)
  have F1_comomentBoth : Fld Z h1 b1 "com/example/arrivals/arrivals/core/SequenceStatistics" "comomentBoth" "D" (.double (0 : UInt64)) := D1 (Or.inl (hw _ (List.mem_of_getElem? (i := 45) rfl))) (ty := .double) (by decide)
  have F1_zeroWeight : Fld Z h1 b1 "com/example/arrivals/arrivals/core/SequenceStatistics" "zeroWeight" "D" (.double (0 : UInt64)) := D1 (Or.inl (hw _ (List.mem_of_getElem? (i := 47) rfl))) (ty := .double) (by decide)
  have F1_weightedRatios : Fld Z h1 b1 "com/example/arrivals/arrivals/core/SequenceStatistics" "weightedRatios" "D" (.double (0 : UInt64)) := D1 (Or.inl (hw _ (List.mem_of_getElem? (i := 49) rfl))) (ty := .double) (by decide)
  obtain ⟨_, _, ⟨T2, L2, k2, n2⟩, -, X2, ⟨Lc2, hQ2, l2, y2, z2⟩, st2⟩ := X1.specialBack hx (y := (⟨"com/example/arrivals/arrivals/core/SequenceStatistics", "<init>", "()V"⟩ : MethodName)) rfl hown (mvT hZ (hw _ (List.mem_of_getElem? (i := 3) rfl))) (mvT hZ (hw _ (List.mem_of_getElem? (i := 4) rfl))) (mvT hZ (hw _ (List.mem_of_getElem? (i := 5) rfl))) (by decide) (backOf (W := 1) (rm1 l Z a0 hw [] b1 h1 n0 Zs1 A1) hZ (hw _ (List.mem_of_getElem? (i := 5) rfl)) (hw _ (List.mem_of_getElem? (i := 2) rfl)) (by decide) (by decide)) (g := (mkF m 76 #[.val (.int p0), .val (.int p1), .val (.int p2), .val (.int p3), .val (.int p4), .val (.int p5), .val (.long wa), .second, .val (.long wb), .second, .val (.int (1 : Int32)), .val (.int (1 : Int32)), .val (.long ra), .second, .val (.long rb), .second, .unset, .unset, .unset, .unset, .unset, .unset, .unset] [(.ref b1), (.ref b1)])) rfl (by rw [hml]; rfl) (Steps.refl _) (a := b1) (argsL := []) (rest := [(.ref b1)]) (lenOf pd_1 rfl) rfl (by show 2 * 0 + _ ≤ _; exact Nat.le_of_eq rfl) (hb hby at_76) (fun _ _ => ⟨rfl, e1, (by decide : 1 + 0 ≤ _), (by decide : 10 + 0 ≤ _)⟩)
  dsimp only [Pt.U, Pt.locs, Pt.cells, Pt.slots] at X2 l2 y2 z2 st2 hQ2
  subst l2 y2 z2
  obtain ⟨rfl, N2q, eh2⟩ := hQ2
  have N2 := Fr.app N0 N2q
  have e2 : T2.heap = h1 := eh2
  obtain ⟨cq3, kq3, q3a, q3b, q3c⟩ := isOf hZ e2 A1
  obtain ⟨_, _, ⟨T3, L3, k3, n3⟩, -, X3, ⟨Lc3, hQ3, l3, y3, z3⟩, st3⟩ := X2.virtualBack hx (y := (⟨"com/example/arrivals/arrivals/core/SequenceStatistics", "add", "(DDJ)V"⟩ : MethodName)) (z := (⟨"com/example/arrivals/arrivals/core/SequenceStatistics", "add", "(DDJ)V"⟩ : MethodName)) hown (mvT hZ (hw _ (List.mem_of_getElem? (i := 17) rfl))) (mvT hZ (hw _ (List.mem_of_getElem? (i := 18) rfl))) (notFace_of_selects (args := #[]) (mvT hZ (hw _ (List.mem_of_getElem? (i := 20) rfl)))) (mvT hZ (hw _ (List.mem_of_getElem? (i := 20) rfl))) (mvT hZ (hw _ (List.mem_of_getElem? (i := 19) rfl))) (by decide) (backOf (W := 0) (rm4_0p l Z a0 hw [] b1 (FP.l2d wa) (FP.l2d xa) (p0.toInt64) ob1 pb1 w1 so1 sp1 oa1 pa1 ma1 mb1 mc1 pw1 wr1 h1 n0 Zs1 A1 g_b1 F1_count F1_weight F1_sumOnline F1_sumOptimum F1_comomentOnline F1_comomentOptimum F1_comomentBoth F1_positiveWeight F1_weightedRatios F1_zeroWeight nn5_99 hq5_99 nn15_99 hq15_99 nn34_99 hq34_99 nn45_99 nn46_99 hq46_99 nn59_99 nn60_99 hq60_99 nn21_66_99 nn69_99 hq69_99 nn21_76_99 nn79_99 hq79_99 nn90_99 nn93_99 nn94_99 hq94_99 nn106_99 nn109_99 nn110_99 hq110_99 nn122_99 nn125_99 nn126_99 hq126_99 hc134_99 nn143_99 hq143_99 nn157_99 nn158_99 nn159_99 hq159_99) hZ (hw _ (List.mem_of_getElem? (i := 21) rfl)) (hw _ (List.mem_of_getElem? (i := 2) rfl)) (by decide) (by decide)) q3a q3c (g := (mkF m 99 #[.val (.int p0), .val (.int p1), .val (.int p2), .val (.int p3), .val (.int p4), .val (.int p5), .val (.long wa), .second, .val (.long wb), .second, .val (.int (1 : Int32)), .val (.int (1 : Int32)), .val (.long ra), .second, .val (.long rb), .second, .val (.ref b1), .unset, .unset, .unset, .unset, .unset, .unset] [(.long (p0.toInt64)), (.double (FP.l2d xa)), (.double (FP.l2d wa)), (.ref b1)])) rfl (by rw [hml]; rfl) (Steps.refl _) (argsL := [(.double (FP.l2d wa)), (.double (FP.l2d xa)), (.long (p0.toInt64))]) (rest := []) (lenOf pd_2 rfl) rfl (by show 2 * 0 + _ ≤ _; exact Nat.le_of_eq rfl) (hb hby at_99) (fun _ _ => ⟨rfl, e2, (by decide : 1 + 0 ≤ _), (by decide : 10 + 0 ≤ _)⟩)
  dsimp only [Pt.U, Pt.locs, Pt.cells, Pt.slots] at X3 l3 y3 z3 st3 hQ3
  subst l3 y3 z3
  obtain ⟨rfl, N3q, K3q, f4, f5, f6, f7, f8, f9, f10, f11, f12, f13, f14⟩ := hQ3
  have N3 := Fr.app N2 N3q
  have f15 := A1.keep K3q
  have K3 : Keep h0 T3.heap [] := K1.trans K3q (own_allS (Or.inr sz_b1) own_all0)
  have Zs3 := Nat.le_trans Zs1 K3q.1
  obtain ⟨cq16, kq16, q16a, q16b, q16c⟩ := isOf hZ rfl f4
  obtain ⟨_, _, ⟨T16, L16, k16, n16⟩, -, X16, ⟨Lc16, hQ16, l16, y16, z16⟩, st16⟩ := X3.virtualBack hx (y := (⟨"com/example/arrivals/arrivals/core/SequenceStatistics", "add", "(DDJ)V"⟩ : MethodName)) (z := (⟨"com/example/arrivals/arrivals/core/SequenceStatistics", "add", "(DDJ)V"⟩ : MethodName)) hown (mvT hZ (hw _ (List.mem_of_getElem? (i := 17) rfl))) (mvT hZ (hw _ (List.mem_of_getElem? (i := 18) rfl))) (notFace_of_selects (args := #[]) (mvT hZ (hw _ (List.mem_of_getElem? (i := 20) rfl)))) (mvT hZ (hw _ (List.mem_of_getElem? (i := 20) rfl))) (mvT hZ (hw _ (List.mem_of_getElem? (i := 19) rfl))) (by decide) (backOf (W := 0) (rm4_1z l Z a0 hw [] b1 (FP.l2d wb) (FP.l2d xb) (p1.toInt64) w1 so1 sp1 ma1 mb1 mc1 pw1 wr1 (0 : UInt64) ob2 pb2 w2 so2 sp2 oa2 pa2 ma2 mb2 mc2 zw2 T3.heap n0 Zs3 f4 g_b1 f5 f6 f7 f8 f9 f10 f11 f12 f13 f14 nn21_2_120 nn5_120 hq5_120 nn21_12_120 nn15_120 hq15_120 nn34_120 hq34_120 nn45_120 nn46_120 hq46_120 nn59_120 nn60_120 hq60_120 nn21_66_120 nn69_120 hq69_120 nn21_76_120 nn79_120 hq79_120 nn90_120 nn93_120 nn94_120 hq94_120 nn106_120 nn109_120 nn110_120 hq110_120 nn122_120 nn125_120 nn126_120 hq126_120 hc134_120 nn172_120 hq172_120) hZ (hw _ (List.mem_of_getElem? (i := 21) rfl)) (hw _ (List.mem_of_getElem? (i := 2) rfl)) (by decide) (by decide)) q16a q16c (g := (mkF m 120 #[.val (.int p0), .val (.int p1), .val (.int p2), .val (.int p3), .val (.int p4), .val (.int p5), .val (.long wa), .second, .val (.long wb), .second, .val (.int (1 : Int32)), .val (.int (1 : Int32)), .val (.long ra), .second, .val (.long rb), .second, .val (.ref b1), .unset, .unset, .unset, .unset, .unset, .unset] [(.long (p1.toInt64)), (.double (FP.l2d xb)), (.double (FP.l2d wb)), (.ref b1)])) rfl (by rw [hml]; rfl) (Steps.refl _) (argsL := [(.double (FP.l2d wb)), (.double (FP.l2d xb)), (.long (p1.toInt64))]) (rest := []) (lenOf pd_2 rfl) rfl (by show 2 * 0 + _ ≤ _; exact Nat.le_of_eq rfl) (hb hby at_120) (fun _ _ => ⟨rfl, rfl, (by decide : 1 + 0 ≤ _), (by decide : 10 + 0 ≤ _)⟩)
  dsimp only [Pt.U, Pt.locs, Pt.cells, Pt.slots] at X16 l16 y16 z16 st16 hQ16
  subst l16 y16 z16
  obtain ⟨rfl, N16q, K16q, f17, f18, f19, f20, f21, f22, f23, f24, f25, f26, f27⟩ := hQ16
  have N16 := Fr.app N3 N16q
  have f28 := f4.keep K16q
  have K16 : Keep h0 T16.heap [] := K3.trans K16q (own_allS (Or.inr sz_b1) own_all0)
  have Zs16 := Nat.le_trans Zs3 K16q.1
  obtain ⟨cq29, kq29, q29a, q29b, q29c⟩ := isOf hZ rfl f17
  obtain ⟨_, _, ⟨T29, L29, k29, n29⟩, -, X29, ⟨Lc29, hQ29, l29, y29, z29⟩, st29⟩ := X16.virtualBack hx (y := (⟨"com/example/arrivals/arrivals/core/SequenceStatistics", "expectedRatio", "()D"⟩ : MethodName)) (z := (⟨"com/example/arrivals/arrivals/core/SequenceStatistics", "expectedRatio", "()D"⟩ : MethodName)) hown (mvT hZ (hw _ (List.mem_of_getElem? (i := 9) rfl))) (mvT hZ (hw _ (List.mem_of_getElem? (i := 10) rfl))) (notFace_of_selects (args := #[]) (mvT hZ (hw _ (List.mem_of_getElem? (i := 12) rfl)))) (mvT hZ (hw _ (List.mem_of_getElem? (i := 12) rfl))) (mvT hZ (hw _ (List.mem_of_getElem? (i := 11) rfl))) (by decide) (backOf (W := 0) (rm3n l Z a0 hw [] b1 pw1 wr1 T16.heap n0 Zs16 f25 f26 hd5_183 nn23_183) hZ (hw _ (List.mem_of_getElem? (i := 13) rfl)) (hw _ (List.mem_of_getElem? (i := 2) rfl)) (by decide) (by decide)) q29a q29c (g := (mkF m 183 #[.val (.int p0), .val (.int p1), .val (.int p2), .val (.int p3), .val (.int p4), .val (.int p5), .val (.long wa), .second, .val (.long wb), .second, .val (.int (1 : Int32)), .val (.int (1 : Int32)), .val (.long ra), .second, .val (.long rb), .second, .val (.ref b1), .val (.long pA), .second, .val (.long nA), .second, .unset, .unset] [(.ref b1)])) rfl (by rw [hml]; rfl) (Steps.refl _) (argsL := []) (rest := []) (lenOf pd_0 rfl) rfl (by show 2 * 0 + _ ≤ _; exact Nat.le_of_eq rfl) (hb hby at_183) (fun _ _ => ⟨rfl, rfl, (by decide : 1 + 0 ≤ _), (by decide : 10 + 0 ≤ _)⟩)
  dsimp only [Pt.U, Pt.locs, Pt.cells, Pt.slots] at X29 l29 y29 z29 st29 hQ29
  subst l29 y29 z29
  obtain ⟨rfl, N29q, eh29⟩ := hQ29
  have N29 := Fr.app N16 N29q
  have e29 : T29.heap = T16.heap := eh29
  obtain ⟨fs, hr, hrun, hended, hW, hsame⟩ := X29.leave (v := some (.int (1 : Int32))) (fun h => by rw [Bd.returns] at h; cases h)
  refine ⟨_, _, pre0 _ ?_, hrun, hended, _, _, rfl, ?_, ⟨_, rfl⟩, hW, hsame.mono (by decide) (by decide)⟩
  · show Steps p.tables e below (s₁.setTop (mkF m 0 #[.val (.int p0), .val (.int p1), .val (.int p2), .val (.int p3), .val (.int p4), .val (.int p5), .unset, .unset, .unset, .unset, .unset, .unset, .unset, .unset, .unset, .unset, .unset, .unset, .unset, .unset, .unset, .unset, .unset] [])) _
    refine XS.iload X0.here hx rfl (hb hby at_0) rfl ?_
    refine XS.sipush X0.here hx rfl (hb hby at_2) ?_
    refine XS.iand X0.here hx rfl (hb hby at_5) rfl ?_
    refine XS.iconst X0.here hx rfl (hb hby at_6) ?_
    refine XS.iadd X0.here hx rfl (hb hby at_7) rfl ?_
    show Steps p.tables e below (s₁.setTop (mkF m 8 #[.val (.int p0), .val (.int p1), .val (.int p2), .val (.int p3), .val (.int p4), .val (.int p5), .unset, .unset, .unset, .unset, .unset, .unset, .unset, .unset, .unset, .unset, .unset, .unset, .unset, .unset, .unset, .unset, .unset] [(.int ((p4 &&& (1023 : Int32)) + (1 : Int32)))])) _
    refine XS.i2l X0.here hx rfl (hb hby at_8) rfl ?_
    show Steps p.tables e below (s₁.setTop (mkF m 9 #[.val (.int p0), .val (.int p1), .val (.int p2), .val (.int p3), .val (.int p4), .val (.int p5), .unset, .unset, .unset, .unset, .unset, .unset, .unset, .unset, .unset, .unset, .unset, .unset, .unset, .unset, .unset, .unset, .unset] [(.long (((p4 &&& (1023 : Int32)) + (1 : Int32)).toInt64))])) _
    rw [hv8]
    show Steps p.tables e below (s₁.setTop (mkF m 9 #[.val (.int p0), .val (.int p1), .val (.int p2), .val (.int p3), .val (.int p4), .val (.int p5), .unset, .unset, .unset, .unset, .unset, .unset, .unset, .unset, .unset, .unset, .unset, .unset, .unset, .unset, .unset, .unset, .unset] [(.long wa)])) _
    refine XS.lstore X0.here hx rfl (hb hby at_9) rfl (l' := #[.val (.int p0), .val (.int p1), .val (.int p2), .val (.int p3), .val (.int p4), .val (.int p5), .val (.long wa), .second, .unset, .unset, .unset, .unset, .unset, .unset, .unset, .unset, .unset, .unset, .unset, .unset, .unset, .unset, .unset]) rfl ?_
    refine XS.iload X0.here hx rfl (hb hby at_11) rfl ?_
    refine XS.sipush X0.here hx rfl (hb hby at_13) ?_
    refine XS.iand X0.here hx rfl (hb hby at_16) rfl ?_
    show Steps p.tables e below (s₁.setTop (mkF m 17 #[.val (.int p0), .val (.int p1), .val (.int p2), .val (.int p3), .val (.int p4), .val (.int p5), .val (.long wa), .second, .unset, .unset, .unset, .unset, .unset, .unset, .unset, .unset, .unset, .unset, .unset, .unset, .unset, .unset, .unset] [(.int (p5 &&& (1023 : Int32)))])) _
    refine XS.iconst X0.here hx rfl (hb hby at_17) ?_
    refine XS.iadd X0.here hx rfl (hb hby at_18) rfl ?_
    refine XS.i2l X0.here hx rfl (hb hby at_19) rfl ?_
    show Steps p.tables e below (s₁.setTop (mkF m 20 #[.val (.int p0), .val (.int p1), .val (.int p2), .val (.int p3), .val (.int p4), .val (.int p5), .val (.long wa), .second, .unset, .unset, .unset, .unset, .unset, .unset, .unset, .unset, .unset, .unset, .unset, .unset, .unset, .unset, .unset] [(.long (((p5 &&& (1023 : Int32)) + (1 : Int32)).toInt64))])) _
    rw [hv19]
    show Steps p.tables e below (s₁.setTop (mkF m 20 #[.val (.int p0), .val (.int p1), .val (.int p2), .val (.int p3), .val (.int p4), .val (.int p5), .val (.long wa), .second, .unset, .unset, .unset, .unset, .unset, .unset, .unset, .unset, .unset, .unset, .unset, .unset, .unset, .unset, .unset] [(.long wb)])) _
    refine XS.lstore X0.here hx rfl (hb hby at_20) rfl (l' := #[.val (.int p0), .val (.int p1), .val (.int p2), .val (.int p3), .val (.int p4), .val (.int p5), .val (.long wa), .second, .val (.long wb), .second, .unset, .unset, .unset, .unset, .unset, .unset, .unset, .unset, .unset, .unset, .unset, .unset, .unset]) rfl ?_
    refine XS.iload X0.here hx rfl (hb hby at_22) rfl ?_
    show Steps p.tables e below (s₁.setTop (mkF m 24 #[.val (.int p0), .val (.int p1), .val (.int p2), .val (.int p3), .val (.int p4), .val (.int p5), .val (.long wa), .second, .val (.long wb), .second, .unset, .unset, .unset, .unset, .unset, .unset, .unset, .unset, .unset, .unset, .unset, .unset, .unset] [(.int p4)])) _
    refine XS.bipush X0.here hx rfl (hb hby at_24) ?_
    refine XS.iushr X0.here hx rfl (hb hby at_26) rfl ?_
    refine XS.iconst X0.here hx rfl (hb hby at_27) ?_
    refine XS.iand X0.here hx rfl (hb hby at_28) rfl ?_
    refine XS.ifNo X0.here hx rfl (hb hby at_29) rfl ((if0 _ _).trans (feq hc29).1) ?_
    refine XS.iconst X0.here hx rfl (hb hby at_32) ?_
    show Steps p.tables e below (s₁.setTop (mkF m 33 #[.val (.int p0), .val (.int p1), .val (.int p2), .val (.int p3), .val (.int p4), .val (.int p5), .val (.long wa), .second, .val (.long wb), .second, .unset, .unset, .unset, .unset, .unset, .unset, .unset, .unset, .unset, .unset, .unset, .unset, .unset] [(.int (1 : Int32))])) _
    refine XS.goto X0.here hx rfl (pc0 := 33) (pc' := 37) rfl (hb hby at_33) (by decide) (by decide) ?_
    refine XS.istore X0.here hx rfl (hb hby at_37) rfl (l' := #[.val (.int p0), .val (.int p1), .val (.int p2), .val (.int p3), .val (.int p4), .val (.int p5), .val (.long wa), .second, .val (.long wb), .second, .val (.int (1 : Int32)), .unset, .unset, .unset, .unset, .unset, .unset, .unset, .unset, .unset, .unset, .unset, .unset]) rfl ?_
    refine XS.iload X0.here hx rfl (hb hby at_39) rfl ?_
    refine XS.bipush X0.here hx rfl (hb hby at_41) ?_
    refine XS.iushr X0.here hx rfl (hb hby at_43) rfl ?_
    refine XS.iconst X0.here hx rfl (hb hby at_44) ?_
    show Steps p.tables e below (s₁.setTop (mkF m 45 #[.val (.int p0), .val (.int p1), .val (.int p2), .val (.int p3), .val (.int p4), .val (.int p5), .val (.long wa), .second, .val (.long wb), .second, .val (.int (1 : Int32)), .unset, .unset, .unset, .unset, .unset, .unset, .unset, .unset, .unset, .unset, .unset, .unset] [(.int (3 : Int32)), (.int ((p5.toUInt32 >>> ((10 : Int32) &&& 31).toUInt32).toInt32))])) _
    refine XS.iand X0.here hx rfl (hb hby at_45) rfl ?_
    refine XS.ifNo X0.here hx rfl (hb hby at_46) rfl ((if0 _ _).trans (feq hc46).1) ?_
    refine XS.iconst X0.here hx rfl (hb hby at_49) ?_
    refine XS.goto X0.here hx rfl (pc0 := 50) (pc' := 54) rfl (hb hby at_50) (by decide) (by decide) ?_
    refine XS.istore X0.here hx rfl (hb hby at_54) rfl (l' := #[.val (.int p0), .val (.int p1), .val (.int p2), .val (.int p3), .val (.int p4), .val (.int p5), .val (.long wa), .second, .val (.long wb), .second, .val (.int (1 : Int32)), .val (.int (1 : Int32)), .unset, .unset, .unset, .unset, .unset, .unset, .unset, .unset, .unset, .unset, .unset]) rfl ?_
    refine XS.iloadN X0.here hx rfl (hb hby at_56) rfl ?_
    show Steps p.tables e below (s₁.setTop (mkF m 57 #[.val (.int p0), .val (.int p1), .val (.int p2), .val (.int p3), .val (.int p4), .val (.int p5), .val (.long wa), .second, .val (.long wb), .second, .val (.int (1 : Int32)), .val (.int (1 : Int32)), .unset, .unset, .unset, .unset, .unset, .unset, .unset, .unset, .unset, .unset, .unset] [(.int p2)])) _
    refine XS.sipush X0.here hx rfl (hb hby at_57) ?_
    refine iremM (g := (mkF m 60 #[.val (.int p0), .val (.int p1), .val (.int p2), .val (.int p3), .val (.int p4), .val (.int p5), .val (.long wa), .second, .val (.long wb), .second, .val (.int (1 : Int32)), .val (.int (1 : Int32)), .unset, .unset, .unset, .unset, .unset, .unset, .unset, .unset, .unset, .unset, .unset] [(.int (1024 : Int32)), (.int p2)])) X0 hx rfl (hb hby at_60) rfl (by decide) ?_
    show Steps p.tables e below (s₁.setTop (mkF m 61 #[.val (.int p0), .val (.int p1), .val (.int p2), .val (.int p3), .val (.int p4), .val (.int p5), .val (.long wa), .second, .val (.long wb), .second, .val (.int (1 : Int32)), .val (.int (1 : Int32)), .unset, .unset, .unset, .unset, .unset, .unset, .unset, .unset, .unset, .unset, .unset] [(.int (p2 % (1024 : Int32)))])) _
    refine XS.i2l X0.here hx rfl (hb hby at_61) rfl ?_
    show Steps p.tables e below (s₁.setTop (mkF m 62 #[.val (.int p0), .val (.int p1), .val (.int p2), .val (.int p3), .val (.int p4), .val (.int p5), .val (.long wa), .second, .val (.long wb), .second, .val (.int (1 : Int32)), .val (.int (1 : Int32)), .unset, .unset, .unset, .unset, .unset, .unset, .unset, .unset, .unset, .unset, .unset] [(.long ((p2 % (1024 : Int32)).toInt64))])) _
    rw [hv61]
    show Steps p.tables e below (s₁.setTop (mkF m 62 #[.val (.int p0), .val (.int p1), .val (.int p2), .val (.int p3), .val (.int p4), .val (.int p5), .val (.long wa), .second, .val (.long wb), .second, .val (.int (1 : Int32)), .val (.int (1 : Int32)), .unset, .unset, .unset, .unset, .unset, .unset, .unset, .unset, .unset, .unset, .unset] [(.long ra)])) _
    refine XS.lstore X0.here hx rfl (hb hby at_62) rfl (l' := #[.val (.int p0), .val (.int p1), .val (.int p2), .val (.int p3), .val (.int p4), .val (.int p5), .val (.long wa), .second, .val (.long wb), .second, .val (.int (1 : Int32)), .val (.int (1 : Int32)), .val (.long ra), .second, .unset, .unset, .unset, .unset, .unset, .unset, .unset, .unset, .unset]) rfl ?_
    refine XS.iloadN X0.here hx rfl (hb hby at_64) rfl ?_
    show Steps p.tables e below (s₁.setTop (mkF m 65 #[.val (.int p0), .val (.int p1), .val (.int p2), .val (.int p3), .val (.int p4), .val (.int p5), .val (.long wa), .second, .val (.long wb), .second, .val (.int (1 : Int32)), .val (.int (1 : Int32)), .val (.long ra), .second, .unset, .unset, .unset, .unset, .unset, .unset, .unset, .unset, .unset] [(.int p3)])) _
    refine XS.sipush X0.here hx rfl (hb hby at_65) ?_
    refine iremM (g := (mkF m 68 #[.val (.int p0), .val (.int p1), .val (.int p2), .val (.int p3), .val (.int p4), .val (.int p5), .val (.long wa), .second, .val (.long wb), .second, .val (.int (1 : Int32)), .val (.int (1 : Int32)), .val (.long ra), .second, .unset, .unset, .unset, .unset, .unset, .unset, .unset, .unset, .unset] [(.int (1024 : Int32)), (.int p3)])) X0 hx rfl (hb hby at_68) rfl (by decide) ?_
    show Steps p.tables e below (s₁.setTop (mkF m 69 #[.val (.int p0), .val (.int p1), .val (.int p2), .val (.int p3), .val (.int p4), .val (.int p5), .val (.long wa), .second, .val (.long wb), .second, .val (.int (1 : Int32)), .val (.int (1 : Int32)), .val (.long ra), .second, .unset, .unset, .unset, .unset, .unset, .unset, .unset, .unset, .unset] [(.int (p3 % (1024 : Int32)))])) _
    refine XS.i2l X0.here hx rfl (hb hby at_69) rfl ?_
    show Steps p.tables e below (s₁.setTop (mkF m 70 #[.val (.int p0), .val (.int p1), .val (.int p2), .val (.int p3), .val (.int p4), .val (.int p5), .val (.long wa), .second, .val (.long wb), .second, .val (.int (1 : Int32)), .val (.int (1 : Int32)), .val (.long ra), .second, .unset, .unset, .unset, .unset, .unset, .unset, .unset, .unset, .unset] [(.long ((p3 % (1024 : Int32)).toInt64))])) _
    rw [hv69]
    show Steps p.tables e below (s₁.setTop (mkF m 70 #[.val (.int p0), .val (.int p1), .val (.int p2), .val (.int p3), .val (.int p4), .val (.int p5), .val (.long wa), .second, .val (.long wb), .second, .val (.int (1 : Int32)), .val (.int (1 : Int32)), .val (.long ra), .second, .unset, .unset, .unset, .unset, .unset, .unset, .unset, .unset, .unset] [(.long rb)])) _
    refine XS.lstore X0.here hx rfl (hb hby at_70) rfl (l' := #[.val (.int p0), .val (.int p1), .val (.int p2), .val (.int p3), .val (.int p4), .val (.int p5), .val (.long wa), .second, .val (.long wb), .second, .val (.int (1 : Int32)), .val (.int (1 : Int32)), .val (.long ra), .second, .val (.long rb), .second, .unset, .unset, .unset, .unset, .unset, .unset, .unset]) rfl ?_
    refine st1 _ ?_
    show Steps p.tables e below (T1.setTop (mkF m 75 #[.val (.int p0), .val (.int p1), .val (.int p2), .val (.int p3), .val (.int p4), .val (.int p5), .val (.long wa), .second, .val (.long wb), .second, .val (.int (1 : Int32)), .val (.int (1 : Int32)), .val (.long ra), .second, .val (.long rb), .second, .unset, .unset, .unset, .unset, .unset, .unset, .unset] [(.ref b1)])) _
    refine XS.dup X1.here hx rfl (hb hby at_75) rfl rfl ?_
    refine st2.trans ?_
    show Steps p.tables e below (T2.setTop (mkF m 79 #[.val (.int p0), .val (.int p1), .val (.int p2), .val (.int p3), .val (.int p4), .val (.int p5), .val (.long wa), .second, .val (.long wb), .second, .val (.int (1 : Int32)), .val (.int (1 : Int32)), .val (.long ra), .second, .val (.long rb), .second, .unset, .unset, .unset, .unset, .unset, .unset, .unset] [(.ref b1)])) _
    refine XS.astore X2.here hx rfl (hb hby at_79) rfl rfl (l' := #[.val (.int p0), .val (.int p1), .val (.int p2), .val (.int p3), .val (.int p4), .val (.int p5), .val (.long wa), .second, .val (.long wb), .second, .val (.int (1 : Int32)), .val (.int (1 : Int32)), .val (.long ra), .second, .val (.long rb), .second, .val (.ref b1), .unset, .unset, .unset, .unset, .unset, .unset]) rfl ?_
    refine XS.iload X2.here hx rfl (hb hby at_81) rfl ?_
    refine XS.ifNo X2.here hx rfl (hb hby at_83) rfl ((if0 _ _).trans (feq (by decide : ¬ ((1 : Int32) = (0 : Int32)))).1) ?_
    refine XS.aload X2.here hx rfl (hb hby at_86) rfl rfl ?_
    show Steps p.tables e below (T2.setTop (mkF m 88 #[.val (.int p0), .val (.int p1), .val (.int p2), .val (.int p3), .val (.int p4), .val (.int p5), .val (.long wa), .second, .val (.long wb), .second, .val (.int (1 : Int32)), .val (.int (1 : Int32)), .val (.long ra), .second, .val (.long rb), .second, .val (.ref b1), .unset, .unset, .unset, .unset, .unset, .unset] [(.ref b1)])) _
    refine XS.lload X2.here hx rfl (hb hby at_88) rfl ?_
    refine XS.l2dS X2.here hx rfl (hb hby at_90) rfl (v := (FP.l2d wa)) rfl ?_
    refine XS.lload X2.here hx rfl (hb hby at_91) rfl ?_
    refine XS.iloadN X2.here hx rfl (hb hby at_93) rfl ?_
    refine XS.i2l X2.here hx rfl (hb hby at_94) rfl ?_
    refine XS.lmul X2.here hx rfl (hb hby at_95) rfl ?_
    show Steps p.tables e below (T2.setTop (mkF m 96 #[.val (.int p0), .val (.int p1), .val (.int p2), .val (.int p3), .val (.int p4), .val (.int p5), .val (.long wa), .second, .val (.long wb), .second, .val (.int (1 : Int32)), .val (.int (1 : Int32)), .val (.long ra), .second, .val (.long rb), .second, .val (.ref b1), .unset, .unset, .unset, .unset, .unset, .unset] [(.long (ra * (p0.toInt64))), (.double (FP.l2d wa)), (.ref b1)])) _
    rw [hv95]
    show Steps p.tables e below (T2.setTop (mkF m 96 #[.val (.int p0), .val (.int p1), .val (.int p2), .val (.int p3), .val (.int p4), .val (.int p5), .val (.long wa), .second, .val (.long wb), .second, .val (.int (1 : Int32)), .val (.int (1 : Int32)), .val (.long ra), .second, .val (.long rb), .second, .val (.ref b1), .unset, .unset, .unset, .unset, .unset, .unset] [(.long xa), (.double (FP.l2d wa)), (.ref b1)])) _
    refine XS.l2dS X2.here hx rfl (hb hby at_96) rfl (v := (FP.l2d xa)) rfl ?_
    refine XS.iloadN X2.here hx rfl (hb hby at_97) rfl ?_
    refine XS.i2l X2.here hx rfl (hb hby at_98) rfl ?_
    refine st3.trans ?_
    show Steps p.tables e below (T3.setTop (mkF m 102 #[.val (.int p0), .val (.int p1), .val (.int p2), .val (.int p3), .val (.int p4), .val (.int p5), .val (.long wa), .second, .val (.long wb), .second, .val (.int (1 : Int32)), .val (.int (1 : Int32)), .val (.long ra), .second, .val (.long rb), .second, .val (.ref b1), .unset, .unset, .unset, .unset, .unset, .unset] [])) _
    refine XS.iload X3.here hx rfl (hb hby at_102) rfl ?_
    show Steps p.tables e below (T3.setTop (mkF m 104 #[.val (.int p0), .val (.int p1), .val (.int p2), .val (.int p3), .val (.int p4), .val (.int p5), .val (.long wa), .second, .val (.long wb), .second, .val (.int (1 : Int32)), .val (.int (1 : Int32)), .val (.long ra), .second, .val (.long rb), .second, .val (.ref b1), .unset, .unset, .unset, .unset, .unset, .unset] [(.int (1 : Int32))])) _
    refine XS.ifNo X3.here hx rfl (hb hby at_104) rfl ((if0 _ _).trans (feq (by decide : ¬ ((1 : Int32) = (0 : Int32)))).1) ?_
    refine XS.aload X3.here hx rfl (hb hby at_107) rfl rfl ?_
    refine XS.lload X3.here hx rfl (hb hby at_109) rfl ?_
    refine XS.l2dS X3.here hx rfl (hb hby at_111) rfl (v := (FP.l2d wb)) rfl ?_
    refine XS.lload X3.here hx rfl (hb hby at_112) rfl ?_
    refine XS.iloadN X3.here hx rfl (hb hby at_114) rfl ?_
    show Steps p.tables e below (T3.setTop (mkF m 115 #[.val (.int p0), .val (.int p1), .val (.int p2), .val (.int p3), .val (.int p4), .val (.int p5), .val (.long wa), .second, .val (.long wb), .second, .val (.int (1 : Int32)), .val (.int (1 : Int32)), .val (.long ra), .second, .val (.long rb), .second, .val (.ref b1), .unset, .unset, .unset, .unset, .unset, .unset] [(.int p1), (.long rb), (.double (FP.l2d wb)), (.ref b1)])) _
    refine XS.i2l X3.here hx rfl (hb hby at_115) rfl ?_
    refine XS.lmul X3.here hx rfl (hb hby at_116) rfl ?_
    show Steps p.tables e below (T3.setTop (mkF m 117 #[.val (.int p0), .val (.int p1), .val (.int p2), .val (.int p3), .val (.int p4), .val (.int p5), .val (.long wa), .second, .val (.long wb), .second, .val (.int (1 : Int32)), .val (.int (1 : Int32)), .val (.long ra), .second, .val (.long rb), .second, .val (.ref b1), .unset, .unset, .unset, .unset, .unset, .unset] [(.long (rb * (p1.toInt64))), (.double (FP.l2d wb)), (.ref b1)])) _
    rw [hv116]
    show Steps p.tables e below (T3.setTop (mkF m 117 #[.val (.int p0), .val (.int p1), .val (.int p2), .val (.int p3), .val (.int p4), .val (.int p5), .val (.long wa), .second, .val (.long wb), .second, .val (.int (1 : Int32)), .val (.int (1 : Int32)), .val (.long ra), .second, .val (.long rb), .second, .val (.ref b1), .unset, .unset, .unset, .unset, .unset, .unset] [(.long xb), (.double (FP.l2d wb)), (.ref b1)])) _
    refine XS.l2dS X3.here hx rfl (hb hby at_117) rfl (v := (FP.l2d xb)) rfl ?_
    refine XS.iloadN X3.here hx rfl (hb hby at_118) rfl ?_
    refine XS.i2l X3.here hx rfl (hb hby at_119) rfl ?_
    show Steps p.tables e below (T3.setTop (mkF m 120 #[.val (.int p0), .val (.int p1), .val (.int p2), .val (.int p3), .val (.int p4), .val (.int p5), .val (.long wa), .second, .val (.long wb), .second, .val (.int (1 : Int32)), .val (.int (1 : Int32)), .val (.long ra), .second, .val (.long rb), .second, .val (.ref b1), .unset, .unset, .unset, .unset, .unset, .unset] [(.long (p1.toInt64)), (.double (FP.l2d xb)), (.double (FP.l2d wb)), (.ref b1)])) _
    refine st16.trans ?_
    show Steps p.tables e below (T16.setTop (mkF m 123 #[.val (.int p0), .val (.int p1), .val (.int p2), .val (.int p3), .val (.int p4), .val (.int p5), .val (.long wa), .second, .val (.long wb), .second, .val (.int (1 : Int32)), .val (.int (1 : Int32)), .val (.long ra), .second, .val (.long rb), .second, .val (.ref b1), .unset, .unset, .unset, .unset, .unset, .unset] [])) _
    refine XS.lconst X16.here hx rfl (hb hby at_123) ?_
    refine XS.lstore X16.here hx rfl (hb hby at_124) rfl (l' := #[.val (.int p0), .val (.int p1), .val (.int p2), .val (.int p3), .val (.int p4), .val (.int p5), .val (.long wa), .second, .val (.long wb), .second, .val (.int (1 : Int32)), .val (.int (1 : Int32)), .val (.long ra), .second, .val (.long rb), .second, .val (.ref b1), .val (.long (0 : Int64)), .second, .unset, .unset, .unset, .unset]) rfl ?_
    refine XS.lconst X16.here hx rfl (hb hby at_126) ?_
    refine XS.lstore X16.here hx rfl (hb hby at_127) rfl (l' := #[.val (.int p0), .val (.int p1), .val (.int p2), .val (.int p3), .val (.int p4), .val (.int p5), .val (.long wa), .second, .val (.long wb), .second, .val (.int (1 : Int32)), .val (.int (1 : Int32)), .val (.long ra), .second, .val (.long rb), .second, .val (.ref b1), .val (.long (0 : Int64)), .second, .val (.long (0 : Int64)), .second, .unset, .unset]) rfl ?_
    refine XS.iload X16.here hx rfl (hb hby at_129) rfl ?_
    show Steps p.tables e below (T16.setTop (mkF m 131 #[.val (.int p0), .val (.int p1), .val (.int p2), .val (.int p3), .val (.int p4), .val (.int p5), .val (.long wa), .second, .val (.long wb), .second, .val (.int (1 : Int32)), .val (.int (1 : Int32)), .val (.long ra), .second, .val (.long rb), .second, .val (.ref b1), .val (.long (0 : Int64)), .second, .val (.long (0 : Int64)), .second, .unset, .unset] [(.int (1 : Int32))])) _
    refine XS.ifNo X16.here hx rfl (hb hby at_131) rfl ((if0 _ _).trans (feq (by decide : ¬ ((1 : Int32) = (0 : Int32)))).1) ?_
    refine XS.iloadN X16.here hx rfl (hb hby at_134) rfl ?_
    refine XS.ifNo X16.here hx rfl (hb hby at_135) rfl ((if0 _ _).trans (tlt hc135).2.2.2) ?_
    refine XS.lload X16.here hx rfl (hb hby at_138) rfl ?_
    refine XS.lload X16.here hx rfl (hb hby at_140) rfl ?_
    refine XS.ladd X16.here hx rfl (hb hby at_142) rfl ?_
    show Steps p.tables e below (T16.setTop (mkF m 143 #[.val (.int p0), .val (.int p1), .val (.int p2), .val (.int p3), .val (.int p4), .val (.int p5), .val (.long wa), .second, .val (.long wb), .second, .val (.int (1 : Int32)), .val (.int (1 : Int32)), .val (.long ra), .second, .val (.long rb), .second, .val (.ref b1), .val (.long (0 : Int64)), .second, .val (.long (0 : Int64)), .second, .unset, .unset] [(.long ((0 : Int64) + wa))])) _
    rw [hv142]
    show Steps p.tables e below (T16.setTop (mkF m 143 #[.val (.int p0), .val (.int p1), .val (.int p2), .val (.int p3), .val (.int p4), .val (.int p5), .val (.long wa), .second, .val (.long wb), .second, .val (.int (1 : Int32)), .val (.int (1 : Int32)), .val (.long ra), .second, .val (.long rb), .second, .val (.ref b1), .val (.long (0 : Int64)), .second, .val (.long (0 : Int64)), .second, .unset, .unset] [(.long pA)])) _
    refine XS.lstore X16.here hx rfl (hb hby at_143) rfl (l' := #[.val (.int p0), .val (.int p1), .val (.int p2), .val (.int p3), .val (.int p4), .val (.int p5), .val (.long wa), .second, .val (.long wb), .second, .val (.int (1 : Int32)), .val (.int (1 : Int32)), .val (.long ra), .second, .val (.long rb), .second, .val (.ref b1), .val (.long pA), .second, .val (.long (0 : Int64)), .second, .unset, .unset]) rfl ?_
    refine XS.lload X16.here hx rfl (hb hby at_145) rfl ?_
    refine XS.lload X16.here hx rfl (hb hby at_147) rfl ?_
    refine XS.lload X16.here hx rfl (hb hby at_149) rfl ?_
    refine XS.lmul X16.here hx rfl (hb hby at_151) rfl ?_
    show Steps p.tables e below (T16.setTop (mkF m 152 #[.val (.int p0), .val (.int p1), .val (.int p2), .val (.int p3), .val (.int p4), .val (.int p5), .val (.long wa), .second, .val (.long wb), .second, .val (.int (1 : Int32)), .val (.int (1 : Int32)), .val (.long ra), .second, .val (.long rb), .second, .val (.ref b1), .val (.long pA), .second, .val (.long (0 : Int64)), .second, .unset, .unset] [(.long (wa * ra)), (.long (0 : Int64))])) _
    refine XS.ladd X16.here hx rfl (hb hby at_152) rfl ?_
    show Steps p.tables e below (T16.setTop (mkF m 153 #[.val (.int p0), .val (.int p1), .val (.int p2), .val (.int p3), .val (.int p4), .val (.int p5), .val (.long wa), .second, .val (.long wb), .second, .val (.int (1 : Int32)), .val (.int (1 : Int32)), .val (.long ra), .second, .val (.long rb), .second, .val (.ref b1), .val (.long pA), .second, .val (.long (0 : Int64)), .second, .unset, .unset] [(.long ((0 : Int64) + (wa * ra)))])) _
    rw [hv152]
    show Steps p.tables e below (T16.setTop (mkF m 153 #[.val (.int p0), .val (.int p1), .val (.int p2), .val (.int p3), .val (.int p4), .val (.int p5), .val (.long wa), .second, .val (.long wb), .second, .val (.int (1 : Int32)), .val (.int (1 : Int32)), .val (.long ra), .second, .val (.long rb), .second, .val (.ref b1), .val (.long pA), .second, .val (.long (0 : Int64)), .second, .unset, .unset] [(.long nA)])) _
    refine XS.lstore X16.here hx rfl (hb hby at_153) rfl (l' := #[.val (.int p0), .val (.int p1), .val (.int p2), .val (.int p3), .val (.int p4), .val (.int p5), .val (.long wa), .second, .val (.long wb), .second, .val (.int (1 : Int32)), .val (.int (1 : Int32)), .val (.long ra), .second, .val (.long rb), .second, .val (.ref b1), .val (.long pA), .second, .val (.long nA), .second, .unset, .unset]) rfl ?_
    refine XS.iload X16.here hx rfl (hb hby at_155) rfl ?_
    refine XS.ifNo X16.here hx rfl (hb hby at_157) rfl ((if0 _ _).trans (feq (by decide : ¬ ((1 : Int32) = (0 : Int32)))).1) ?_
    refine XS.iloadN X16.here hx rfl (hb hby at_160) rfl ?_
    show Steps p.tables e below (T16.setTop (mkF m 161 #[.val (.int p0), .val (.int p1), .val (.int p2), .val (.int p3), .val (.int p4), .val (.int p5), .val (.long wa), .second, .val (.long wb), .second, .val (.int (1 : Int32)), .val (.int (1 : Int32)), .val (.long ra), .second, .val (.long rb), .second, .val (.ref b1), .val (.long pA), .second, .val (.long nA), .second, .unset, .unset] [(.int p1)])) _
    refine XS.ifYes X16.here hx rfl (pc0 := 161) (pc' := 181) rfl (hb hby at_161) rfl ((if0 _ _).trans (flt hc161).2.2.2) (by decide) (by decide) ?_
    refine XS.aload X16.here hx rfl (hb hby at_181) rfl rfl ?_
    refine st29.trans ?_
    show Steps p.tables e below (T29.setTop (mkF m 186 #[.val (.int p0), .val (.int p1), .val (.int p2), .val (.int p3), .val (.int p4), .val (.int p5), .val (.long wa), .second, .val (.long wb), .second, .val (.int (1 : Int32)), .val (.int (1 : Int32)), .val (.long ra), .second, .val (.long rb), .second, .val (.ref b1), .val (.long pA), .second, .val (.long nA), .second, .unset, .unset] [(.double (FP.ddiv wr1 pw1))])) _
    refine XS.dstore X29.here hx rfl (hb hby at_186) rfl (l' := #[.val (.int p0), .val (.int p1), .val (.int p2), .val (.int p3), .val (.int p4), .val (.int p5), .val (.long wa), .second, .val (.long wb), .second, .val (.int (1 : Int32)), .val (.int (1 : Int32)), .val (.long ra), .second, .val (.long rb), .second, .val (.ref b1), .val (.long pA), .second, .val (.long nA), .second, .val (.double (FP.ddiv wr1 pw1)), .second]) rfl ?_
    refine XS.lload X29.here hx rfl (hb hby at_188) rfl ?_
    refine XS.lconst X29.here hx rfl (hb hby at_190) ?_
    show Steps p.tables e below (T29.setTop (mkF m 191 #[.val (.int p0), .val (.int p1), .val (.int p2), .val (.int p3), .val (.int p4), .val (.int p5), .val (.long wa), .second, .val (.long wb), .second, .val (.int (1 : Int32)), .val (.int (1 : Int32)), .val (.long ra), .second, .val (.long rb), .second, .val (.ref b1), .val (.long pA), .second, .val (.long nA), .second, .val (.double (FP.ddiv wr1 pw1)), .second] [(.long (0 : Int64)), (.long pA)])) _
    refine XS.lcmp X29.here hx rfl (hb hby at_191) rfl ?_
    refine XS.ifYes X29.here hx rfl (pc0 := 192) (pc' := 209) rfl (hb hby at_192) rfl ((if0 _ _).trans (feq hc192).2) (by decide) (by decide) ?_
    refine XS.dload X29.here hx rfl (hb hby at_209) rfl ?_
    refine XS.lload X29.here hx rfl (hb hby at_211) rfl ?_
    refine XS.l2dS X29.here hx rfl (hb hby at_213) rfl (v := (FP.l2d nA)) rfl ?_
    refine XS.lload X29.here hx rfl (hb hby at_214) rfl ?_
    show Steps p.tables e below (T29.setTop (mkF m 216 #[.val (.int p0), .val (.int p1), .val (.int p2), .val (.int p3), .val (.int p4), .val (.int p5), .val (.long wa), .second, .val (.long wb), .second, .val (.int (1 : Int32)), .val (.int (1 : Int32)), .val (.long ra), .second, .val (.long rb), .second, .val (.ref b1), .val (.long pA), .second, .val (.long nA), .second, .val (.double (FP.ddiv wr1 pw1)), .second] [(.long pA), (.double (FP.l2d nA)), (.double (FP.ddiv wr1 pw1))])) _
    refine XS.l2dS X29.here hx rfl (hb hby at_216) rfl (v := (FP.l2d pA)) rfl ?_
    refine XS.ddivS X29.here hx rfl (hb hby at_217) rfl nn217 (v := (FP.ddiv (FP.l2d nA) (FP.l2d pA))) rfl ?_
    refine XS.dcmpS X29.here hx rfl (hb hby at_218) rfl (v := (0 : Int32)) hd218 ?_
    refine XS.ifNo X29.here hx rfl (hb hby at_219) rfl ((if0 _ _).trans (teq (by decide : (0 : Int32) = (0 : Int32))).2) ?_
    refine XS.iconst X29.here hx rfl (hb hby at_222) ?_
    refine XS.goto X29.here hx rfl (pc0 := 223) (pc' := 227) rfl (hb hby at_223) (by decide) (by decide) ?_
    show Steps p.tables e below (T29.setTop (mkF m 227 #[.val (.int p0), .val (.int p1), .val (.int p2), .val (.int p3), .val (.int p4), .val (.int p5), .val (.long wa), .second, .val (.long wb), .second, .val (.int (1 : Int32)), .val (.int (1 : Int32)), .val (.long ra), .second, .val (.long rb), .second, .val (.ref b1), .val (.long pA), .second, .val (.long nA), .second, .val (.double (FP.ddiv wr1 pw1)), .second] [(.int (1 : Int32))])) _
    exact retN X29 hx (t := .boolean) Bd.returns (by simp) (hb hby at_227) hr
  · show Q0 n0 _ T29.heap _
    rw [e29]
    exact ⟨rfl, N29⟩
set_option maxRecDepth 65536 in
set_option maxHeartbeats 40000000 in
theorem rm0_zo (l : Launch) (Z : State) (a0 : Array Value) (hw : ∀ d ∈ tables_1, d.before a0 Z = true) (ws : List Jvm.Cond) (p0 : Int32) (p1 : Int32) (p2 : Int32) (p3 : Int32) (p4 : Int32) (p5 : Int32) (ob1 : UInt64) (pb1 : UInt64) (w1 : UInt64) (so1 : UInt64) (sp1 : UInt64) (oa1 : UInt64) (pa1 : UInt64) (ma1 : UInt64) (mb1 : UInt64) (mc1 : UInt64) (zw1 : UInt64) (wa : Int64) (wb : Int64) (ra : Int64) (rb : Int64) (xa : Int64) (h0 : Heap) (n0 : Nat) (Z0 : n0 ≤ h0.size) (hv8 : (((p4 &&& (1023 : Int32)) + (1 : Int32)).toInt64) = wa) (hv19 : (((p5 &&& (1023 : Int32)) + (1 : Int32)).toInt64) = wb) (hc29 : ¬ ((((p4.toUInt32 >>> ((10 : Int32) &&& 31).toUInt32).toInt32) &&& (3 : Int32)) = (0 : Int32))) (hc46 : (((p5.toUInt32 >>> ((10 : Int32) &&& 31).toUInt32).toInt32) &&& (3 : Int32)) = (0 : Int32)) (hv61 : ((p2 % (1024 : Int32)).toInt64) = ra) (hv69 : ((p3 % (1024 : Int32)).toInt64) = rb) (hv95 : (ra * (p0.toInt64)) = xa) (nn5_99 : Jvm.Free.Fl.NoNaN64 (FP.dsub (FP.l2d xa) (0 : UInt64))) (hq5_99 : (FP.dsub (FP.l2d xa) (0 : UInt64)) = ob1) (nn15_99 : Jvm.Free.Fl.NoNaN64 (FP.dsub (FP.l2d (p0.toInt64)) (0 : UInt64))) (hq15_99 : (FP.dsub (FP.l2d (p0.toInt64)) (0 : UInt64)) = pb1) (nn34_99 : Jvm.Free.Fl.NoNaN64 (FP.dadd (0 : UInt64) (FP.l2d wa))) (hq34_99 : (FP.dadd (0 : UInt64) (FP.l2d wa)) = w1) (nn45_99 : Jvm.Free.Fl.NoNaN64 (FP.dmul (FP.l2d wa) (FP.l2d xa))) (nn46_99 : Jvm.Free.Fl.NoNaN64 (FP.dadd (0 : UInt64) (FP.dmul (FP.l2d wa) (FP.l2d xa)))) (hq46_99 : (FP.dadd (0 : UInt64) (FP.dmul (FP.l2d wa) (FP.l2d xa))) = so1) (nn59_99 : Jvm.Free.Fl.NoNaN64 (FP.dmul (FP.l2d wa) (FP.l2d (p0.toInt64)))) (nn60_99 : Jvm.Free.Fl.NoNaN64 (FP.dadd (0 : UInt64) (FP.dmul (FP.l2d wa) (FP.l2d (p0.toInt64))))) (hq60_99 : (FP.dadd (0 : UInt64) (FP.dmul (FP.l2d wa) (FP.l2d (p0.toInt64)))) = sp1) (nn21_66_99 : Jvm.Free.Fl.NoNaN64 (FP.ddiv so1 w1)) (nn69_99 : Jvm.Free.Fl.NoNaN64 (FP.dsub (FP.l2d xa) (FP.ddiv so1 w1))) (hq69_99 : (FP.dsub (FP.l2d xa) (FP.ddiv so1 w1)) = oa1) (nn21_76_99 : Jvm.Free.Fl.NoNaN64 (FP.ddiv sp1 w1)) (nn79_99 : Jvm.Free.Fl.NoNaN64 (FP.dsub (FP.l2d (p0.toInt64)) (FP.ddiv sp1 w1))) (hq79_99 : (FP.dsub (FP.l2d (p0.toInt64)) (FP.ddiv sp1 w1)) = pa1) (nn90_99 : Jvm.Free.Fl.NoNaN64 (FP.dmul (FP.l2d wa) ob1)) (nn93_99 : Jvm.Free.Fl.NoNaN64 (FP.dmul (FP.dmul (FP.l2d wa) ob1) oa1)) (nn94_99 : Jvm.Free.Fl.NoNaN64 (FP.dadd (0 : UInt64) (FP.dmul (FP.dmul (FP.l2d wa) ob1) oa1))) (hq94_99 : (FP.dadd (0 : UInt64) (FP.dmul (FP.dmul (FP.l2d wa) ob1) oa1)) = ma1) (nn106_99 : Jvm.Free.Fl.NoNaN64 (FP.dmul (FP.l2d wa) pb1)) (nn109_99 : Jvm.Free.Fl.NoNaN64 (FP.dmul (FP.dmul (FP.l2d wa) pb1) pa1)) (nn110_99 : Jvm.Free.Fl.NoNaN64 (FP.dadd (0 : UInt64) (FP.dmul (FP.dmul (FP.l2d wa) pb1) pa1))) (hq110_99 : (FP.dadd (0 : UInt64) (FP.dmul (FP.dmul (FP.l2d wa) pb1) pa1)) = mb1) (nn122_99 : Jvm.Free.Fl.NoNaN64 (FP.dmul (FP.l2d wa) ob1)) (nn125_99 : Jvm.Free.Fl.NoNaN64 (FP.dmul (FP.dmul (FP.l2d wa) ob1) pa1)) (nn126_99 : Jvm.Free.Fl.NoNaN64 (FP.dadd (0 : UInt64) (FP.dmul (FP.dmul (FP.l2d wa) ob1) pa1))) (hq126_99 : (FP.dadd (0 : UInt64) (FP.dmul (FP.dmul (FP.l2d wa) ob1) pa1)) = mc1) (hc134_99 : ¬ ((0 : Int32) < (lcmpW (p0.toInt64) (0 : Int64)))) (nn172_99 : Jvm.Free.Fl.NoNaN64 (FP.dadd (0 : UInt64) (FP.l2d wa))) (hq172_99 : (FP.dadd (0 : UInt64) (FP.l2d wa)) = zw1) (hc135 : ¬ ((0 : Int32) < p0)) (hd5_183 : (cmpValue (FP.dcmp (0 : UInt64) (0 : UInt64)) .l) = (0 : Int32)) (hd199 : (cmpValue (FP.dcmp (9221120237041090560 : UInt64) (9221120237041090560 : UInt64)) .l) = (-1 : Int32)) :
    MetFree l x (head1 (Jvm.Cond.code x code maxLocals ret :: ws) room_1) (fun a U => a = #[(.int p0), (.int p1), (.int p2), (.int p3), (.int p4), (.int p5)] ∧ Z.Warmed39 U.vm ∧ U.heap = h0) (fun _ _ _ _ _ => True) (fun _ U o U' => ∃ v L, o = .returned v ∧ Q0 n0 v U'.heap L ∧ FrameEnd U o U' L room_1.cells room_1.slots) := by
  refine MetFree.of_bodySF (plainFor_of_name pn_com_example_arrivals_arrivals_core_SequenceStatisticsExpectedRatioPinLaw) hisR ?_
  intro p e s m args below meth c s₁ Bd hml0 hP hK
  obtain ⟨rfl, hZ, hh⟩ := hP
  have hx := Bd.exec
  have hby := Bd.bytes
  have hml : c.maxLocals = 23 := hml0
  have hown : s.vm.findClass "com/example/arrivals/arrivals/core/SequenceStatisticsExpectedRatioPinLaw" = some m.cls := findClass_of_methodNamed Bd.named
  have hnm := (name_of_methodNamed Bd.named Bd.method).1
  have X0 : Stand p l e room_1 s m #[(.int p0), (.int p1), (.int p2), (.int p3), (.int p4), (.int p5)] below meth c s₁ [] 0 0 := Stand.of_body Bd
  have e0 : s₁.heap = h0 := by rw [← hh, Bd.state]; rfl
  have N0 := Fr.nil n0
  have pre0 : ∀ t, Steps p.tables e below (s₁.setTop (mkF m 0 #[.val (.int p0), .val (.int p1), .val (.int p2), .val (.int p3), .val (.int p4), .val (.int p5), .unset, .unset, .unset, .unset, .unset, .unset, .unset, .unset, .unset, .unset, .unset, .unset, .unset, .unset, .unset, .unset, .unset] [])) t → Steps p.tables e below (s₁.setTop (entryFrame m #[(.int p0), (.int p1), (.int p2), (.int p3), (.int p4), (.int p5)] maxLocals)) t := fun t k => castTop (ef_0_IIIIII m p0 p1 p2 p3 p4 p5) k
  obtain ⟨T1, h1, X1, e1, E1, A1, D1, -, st1⟩ := newO X0 hx hZ hown (hw _ (List.mem_of_getElem? (i := 0) rfl)) (hw _ (List.mem_of_getElem? (i := 1) rfl)) (hw _ (List.mem_of_getElem? (i := 2) rfl)) e0 (g := (mkF m 72 #[.val (.int p0), .val (.int p1), .val (.int p2), .val (.int p3), .val (.int p4), .val (.int p5), .val (.long wa), .second, .val (.long wb), .second, .val (.int (1 : Int32)), .val (.int (0 : Int32)), .val (.long ra), .second, .val (.long rb), .second, .unset, .unset, .unset, .unset, .unset, .unset, .unset] [])) rfl (hb hby at_72) (by decide) (by decide)
  obtain ⟨b1, g1⟩ : ∃ z, z = h0.size := ⟨_, rfl⟩
  rw [← g1] at A1 D1 st1
  have g_b1 : n0 ≤ b1 := Nat.le_trans Z0 (Nat.le_of_eq g1.symm)
  have sz_b1 : h0.size ≤ b1 := Nat.le_trans (Keep.refl h0 []).1 (Nat.le_of_eq g1.symm)
  have K1 : Keep h0 h1 [] := (Keep.refl h0 []).ext E1
  have Zs1 := Nat.le_trans Z0 E1.1
  have F1_positiveWeight : Fld Z h1 b1 "com/example/arrivals/arrivals/core/SequenceStatistics" "positiveWeight" "D" (.double (0 : UInt64)) := D1 (Or.inl (hw _ (List.mem_of_getElem? (i := 15) rfl))) (ty := .double) (by decide)
  have F1_count : Fld Z h1 b1 "com/example/arrivals/arrivals/core/SequenceStatistics" "count" "J" (.long (0 : Int64)) := D1 (Or.inl (hw _ (List.mem_of_getElem? (i := 28) rfl))) (ty := .long) (by decide)
  have F1_weight : Fld Z h1 b1 "com/example/arrivals/arrivals/core/SequenceStatistics" "weight" "D" (.double (0 : UInt64)) := D1 (Or.inl (hw _ (List.mem_of_getElem? (i := 35) rfl))) (ty := .double) (by decide)
  have F1_sumOnline : Fld Z h1 b1 "com/example/arrivals/arrivals/core/SequenceStatistics" "sumOnline" "D" (.double (0 : UInt64)) := D1 (Or.inl (hw _ (List.mem_of_getElem? (i := 37) rfl))) (ty := .double) (by decide)
  have F1_sumOptimum : Fld Z h1 b1 "com/example/arrivals/arrivals/core/SequenceStatistics" "sumOptimum" "D" (.double (0 : UInt64)) := D1 (Or.inl (hw _ (List.mem_of_getElem? (i := 39) rfl))) (ty := .double) (by decide)
  have F1_comomentOnline : Fld Z h1 b1 "com/example/arrivals/arrivals/core/SequenceStatistics" "comomentOnline" "D" (.double (0 : UInt64)) := D1 (Or.inl (hw _ (List.mem_of_getElem? (i := 41) rfl))) (ty := .double) (by decide)
  have F1_comomentOptimum : Fld Z h1 b1 "com/example/arrivals/arrivals/core/SequenceStatistics" "comomentOptimum" "D" (.double (0 : UInt64)) := D1 (Or.inl (hw _ (List.mem_of_getElem? (i := 43) rfl))) (ty := .double) (by decide)
  have F1_comomentBoth : Fld Z h1 b1 "com/example/arrivals/arrivals/core/SequenceStatistics" "comomentBoth" "D" (.double (0 : UInt64)) := D1 (Or.inl (hw _ (List.mem_of_getElem? (i := 45) rfl))) (ty := .double) (by decide)
  have F1_zeroWeight : Fld Z h1 b1 "com/example/arrivals/arrivals/core/SequenceStatistics" "zeroWeight" "D" (.double (0 : UInt64)) := D1 (Or.inl (hw _ (List.mem_of_getElem? (i := 47) rfl))) (ty := .double) (by decide)
  have F1_weightedRatios : Fld Z h1 b1 "com/example/arrivals/arrivals/core/SequenceStatistics" "weightedRatios" "D" (.double (0 : UInt64)) := D1 (Or.inl (hw _ (List.mem_of_getElem? (i := 49) rfl))) (ty := .double) (by decide)
  obtain ⟨_, _, ⟨T2, L2, k2, n2⟩, -, X2, ⟨Lc2, hQ2, l2, y2, z2⟩, st2⟩ := X1.specialBack hx (y := (⟨"com/example/arrivals/arrivals/core/SequenceStatistics", "<init>", "()V"⟩ : MethodName)) rfl hown (mvT hZ (hw _ (List.mem_of_getElem? (i := 3) rfl))) (mvT hZ (hw _ (List.mem_of_getElem? (i := 4) rfl))) (mvT hZ (hw _ (List.mem_of_getElem? (i := 5) rfl))) (by decide) (backOf (W := 1) (rm1 l Z a0 hw [] b1 h1 n0 Zs1 A1) hZ (hw _ (List.mem_of_getElem? (i := 5) rfl)) (hw _ (List.mem_of_getElem? (i := 2) rfl)) (by decide) (by decide)) (g := (mkF m 76 #[.val (.int p0), .val (.int p1), .val (.int p2), .val (.int p3), .val (.int p4), .val (.int p5), .val (.long wa), .second, .val (.long wb), .second, .val (.int (1 : Int32)), .val (.int (0 : Int32)), .val (.long ra), .second, .val (.long rb), .second, .unset, .unset, .unset, .unset, .unset, .unset, .unset] [(.ref b1), (.ref b1)])) rfl (by rw [hml]; rfl) (Steps.refl _) (a := b1) (argsL := []) (rest := [(.ref b1)]) (lenOf pd_1 rfl) rfl (by show 2 * 0 + _ ≤ _; exact Nat.le_of_eq rfl) (hb hby at_76) (fun _ _ => ⟨rfl, e1, (by decide : 1 + 0 ≤ _), (by decide : 10 + 0 ≤ _)⟩)
  dsimp only [Pt.U, Pt.locs, Pt.cells, Pt.slots] at X2 l2 y2 z2 st2 hQ2
  subst l2 y2 z2
  obtain ⟨rfl, N2q, eh2⟩ := hQ2
  have N2 := Fr.app N0 N2q
  have e2 : T2.heap = h1 := eh2
  obtain ⟨cq3, kq3, q3a, q3b, q3c⟩ := isOf hZ e2 A1
  obtain ⟨_, _, ⟨T3, L3, k3, n3⟩, -, X3, ⟨Lc3, hQ3, l3, y3, z3⟩, st3⟩ := X2.virtualBack hx (y := (⟨"com/example/arrivals/arrivals/core/SequenceStatistics", "add", "(DDJ)V"⟩ : MethodName)) (z := (⟨"com/example/arrivals/arrivals/core/SequenceStatistics", "add", "(DDJ)V"⟩ : MethodName)) hown (mvT hZ (hw _ (List.mem_of_getElem? (i := 17) rfl))) (mvT hZ (hw _ (List.mem_of_getElem? (i := 18) rfl))) (notFace_of_selects (args := #[]) (mvT hZ (hw _ (List.mem_of_getElem? (i := 20) rfl)))) (mvT hZ (hw _ (List.mem_of_getElem? (i := 20) rfl))) (mvT hZ (hw _ (List.mem_of_getElem? (i := 19) rfl))) (by decide) (backOf (W := 0) (rm4_0z l Z a0 hw [] b1 (FP.l2d wa) (FP.l2d xa) (p0.toInt64) ob1 pb1 w1 so1 sp1 oa1 pa1 ma1 mb1 mc1 zw1 h1 n0 Zs1 A1 g_b1 F1_count F1_weight F1_sumOnline F1_sumOptimum F1_comomentOnline F1_comomentOptimum F1_comomentBoth F1_positiveWeight F1_weightedRatios F1_zeroWeight nn5_99 hq5_99 nn15_99 hq15_99 nn34_99 hq34_99 nn45_99 nn46_99 hq46_99 nn59_99 nn60_99 hq60_99 nn21_66_99 nn69_99 hq69_99 nn21_76_99 nn79_99 hq79_99 nn90_99 nn93_99 nn94_99 hq94_99 nn106_99 nn109_99 nn110_99 hq110_99 nn122_99 nn125_99 nn126_99 hq126_99 hc134_99 nn172_99 hq172_99) hZ (hw _ (List.mem_of_getElem? (i := 21) rfl)) (hw _ (List.mem_of_getElem? (i := 2) rfl)) (by decide) (by decide)) q3a q3c (g := (mkF m 99 #[.val (.int p0), .val (.int p1), .val (.int p2), .val (.int p3), .val (.int p4), .val (.int p5), .val (.long wa), .second, .val (.long wb), .second, .val (.int (1 : Int32)), .val (.int (0 : Int32)), .val (.long ra), .second, .val (.long rb), .second, .val (.ref b1), .unset, .unset, .unset, .unset, .unset, .unset] [(.long (p0.toInt64)), (.double (FP.l2d xa)), (.double (FP.l2d wa)), (.ref b1)])) rfl (by rw [hml]; rfl) (Steps.refl _) (argsL := [(.double (FP.l2d wa)), (.double (FP.l2d xa)), (.long (p0.toInt64))]) (rest := []) (lenOf pd_2 rfl) rfl (by show 2 * 0 + _ ≤ _; exact Nat.le_of_eq rfl) (hb hby at_99) (fun _ _ => ⟨rfl, e2, (by decide : 1 + 0 ≤ _), (by decide : 10 + 0 ≤ _)⟩)
  dsimp only [Pt.U, Pt.locs, Pt.cells, Pt.slots] at X3 l3 y3 z3 st3 hQ3
  subst l3 y3 z3
  obtain ⟨rfl, N3q, K3q, f4, f5, f6, f7, f8, f9, f10, f11, f12, f13, f14⟩ := hQ3
  have N3 := Fr.app N2 N3q
  have f15 := A1.keep K3q
  have K3 : Keep h0 T3.heap [] := K1.trans K3q (own_allS (Or.inr sz_b1) own_all0)
  have Zs3 := Nat.le_trans Zs1 K3q.1
  obtain ⟨cq16, kq16, q16a, q16b, q16c⟩ := isOf hZ rfl f4
  obtain ⟨_, _, ⟨T16, L16, k16, n16⟩, -, X16, ⟨Lc16, hQ16, l16, y16, z16⟩, st16⟩ := X3.virtualBack hx (y := (⟨"com/example/arrivals/arrivals/core/SequenceStatistics", "expectedRatio", "()D"⟩ : MethodName)) (z := (⟨"com/example/arrivals/arrivals/core/SequenceStatistics", "expectedRatio", "()D"⟩ : MethodName)) hown (mvT hZ (hw _ (List.mem_of_getElem? (i := 9) rfl))) (mvT hZ (hw _ (List.mem_of_getElem? (i := 10) rfl))) (notFace_of_selects (args := #[]) (mvT hZ (hw _ (List.mem_of_getElem? (i := 12) rfl)))) (mvT hZ (hw _ (List.mem_of_getElem? (i := 12) rfl))) (mvT hZ (hw _ (List.mem_of_getElem? (i := 11) rfl))) (by decide) (backOf (W := 0) (rm3z l Z a0 hw [] b1 (0 : UInt64) (0 : UInt64) T3.heap n0 Zs3 f12 f13 hd5_183) hZ (hw _ (List.mem_of_getElem? (i := 13) rfl)) (hw _ (List.mem_of_getElem? (i := 2) rfl)) (by decide) (by decide)) q16a q16c (g := (mkF m 183 #[.val (.int p0), .val (.int p1), .val (.int p2), .val (.int p3), .val (.int p4), .val (.int p5), .val (.long wa), .second, .val (.long wb), .second, .val (.int (1 : Int32)), .val (.int (0 : Int32)), .val (.long ra), .second, .val (.long rb), .second, .val (.ref b1), .val (.long (0 : Int64)), .second, .val (.long (0 : Int64)), .second, .unset, .unset] [(.ref b1)])) rfl (by rw [hml]; rfl) (Steps.refl _) (argsL := []) (rest := []) (lenOf pd_0 rfl) rfl (by show 2 * 0 + _ ≤ _; exact Nat.le_of_eq rfl) (hb hby at_183) (fun _ _ => ⟨rfl, rfl, (by decide : 1 + 0 ≤ _), (by decide : 10 + 0 ≤ _)⟩)
  dsimp only [Pt.U, Pt.locs, Pt.cells, Pt.slots] at X16 l16 y16 z16 st16 hQ16
  subst l16 y16 z16
  obtain ⟨rfl, N16q, eh16⟩ := hQ16
  have N16 := Fr.app N3 N16q
  have e16 : T16.heap = T3.heap := eh16
  obtain ⟨fs, hr, hrun, hended, hW, hsame⟩ := X16.leave (v := some (.int (1 : Int32))) (fun h => by rw [Bd.returns] at h; cases h)
  refine ⟨_, _, pre0 _ ?_, hrun, hended, _, _, rfl, ?_, ⟨_, rfl⟩, hW, hsame.mono (by decide) (by decide)⟩
  · show Steps p.tables e below (s₁.setTop (mkF m 0 #[.val (.int p0), .val (.int p1), .val (.int p2), .val (.int p3), .val (.int p4), .val (.int p5), .unset, .unset, .unset, .unset, .unset, .unset, .unset, .unset, .unset, .unset, .unset, .unset, .unset, .unset, .unset, .unset, .unset] [])) _
    refine XS.iload X0.here hx rfl (hb hby at_0) rfl ?_
    refine XS.sipush X0.here hx rfl (hb hby at_2) ?_
    refine XS.iand X0.here hx rfl (hb hby at_5) rfl ?_
    refine XS.iconst X0.here hx rfl (hb hby at_6) ?_
    refine XS.iadd X0.here hx rfl (hb hby at_7) rfl ?_
    show Steps p.tables e below (s₁.setTop (mkF m 8 #[.val (.int p0), .val (.int p1), .val (.int p2), .val (.int p3), .val (.int p4), .val (.int p5), .unset, .unset, .unset, .unset, .unset, .unset, .unset, .unset, .unset, .unset, .unset, .unset, .unset, .unset, .unset, .unset, .unset] [(.int ((p4 &&& (1023 : Int32)) + (1 : Int32)))])) _
    refine XS.i2l X0.here hx rfl (hb hby at_8) rfl ?_
    show Steps p.tables e below (s₁.setTop (mkF m 9 #[.val (.int p0), .val (.int p1), .val (.int p2), .val (.int p3), .val (.int p4), .val (.int p5), .unset, .unset, .unset, .unset, .unset, .unset, .unset, .unset, .unset, .unset, .unset, .unset, .unset, .unset, .unset, .unset, .unset] [(.long (((p4 &&& (1023 : Int32)) + (1 : Int32)).toInt64))])) _
    rw [hv8]
    show Steps p.tables e below (s₁.setTop (mkF m 9 #[.val (.int p0), .val (.int p1), .val (.int p2), .val (.int p3), .val (.int p4), .val (.int p5), .unset, .unset, .unset, .unset, .unset, .unset, .unset, .unset, .unset, .unset, .unset, .unset, .unset, .unset, .unset, .unset, .unset] [(.long wa)])) _
    refine XS.lstore X0.here hx rfl (hb hby at_9) rfl (l' := #[.val (.int p0), .val (.int p1), .val (.int p2), .val (.int p3), .val (.int p4), .val (.int p5), .val (.long wa), .second, .unset, .unset, .unset, .unset, .unset, .unset, .unset, .unset, .unset, .unset, .unset, .unset, .unset, .unset, .unset]) rfl ?_
    refine XS.iload X0.here hx rfl (hb hby at_11) rfl ?_
    refine XS.sipush X0.here hx rfl (hb hby at_13) ?_
    refine XS.iand X0.here hx rfl (hb hby at_16) rfl ?_
    show Steps p.tables e below (s₁.setTop (mkF m 17 #[.val (.int p0), .val (.int p1), .val (.int p2), .val (.int p3), .val (.int p4), .val (.int p5), .val (.long wa), .second, .unset, .unset, .unset, .unset, .unset, .unset, .unset, .unset, .unset, .unset, .unset, .unset, .unset, .unset, .unset] [(.int (p5 &&& (1023 : Int32)))])) _
    refine XS.iconst X0.here hx rfl (hb hby at_17) ?_
    refine XS.iadd X0.here hx rfl (hb hby at_18) rfl ?_
    refine XS.i2l X0.here hx rfl (hb hby at_19) rfl ?_
    show Steps p.tables e below (s₁.setTop (mkF m 20 #[.val (.int p0), .val (.int p1), .val (.int p2), .val (.int p3), .val (.int p4), .val (.int p5), .val (.long wa), .second, .unset, .unset, .unset, .unset, .unset, .unset, .unset, .unset, .unset, .unset, .unset, .unset, .unset, .unset, .unset] [(.long (((p5 &&& (1023 : Int32)) + (1 : Int32)).toInt64))])) _
    rw [hv19]
    show Steps p.tables e below (s₁.setTop (mkF m 20 #[.val (.int p0), .val (.int p1), .val (.int p2), .val (.int p3), .val (.int p4), .val (.int p5), .val (.long wa), .second, .unset, .unset, .unset, .unset, .unset, .unset, .unset, .unset, .unset, .unset, .unset, .unset, .unset, .unset, .unset] [(.long wb)])) _
    refine XS.lstore X0.here hx rfl (hb hby at_20) rfl (l' := #[.val (.int p0), .val (.int p1), .val (.int p2), .val (.int p3), .val (.int p4), .val (.int p5), .val (.long wa), .second, .val (.long wb), .second, .unset, .unset, .unset, .unset, .unset, .unset, .unset, .unset, .unset, .unset, .unset, .unset, .unset]) rfl ?_
    refine XS.iload X0.here hx rfl (hb hby at_22) rfl ?_
    show Steps p.tables e below (s₁.setTop (mkF m 24 #[.val (.int p0), .val (.int p1), .val (.int p2), .val (.int p3), .val (.int p4), .val (.int p5), .val (.long wa), .second, .val (.long wb), .second, .unset, .unset, .unset, .unset, .unset, .unset, .unset, .unset, .unset, .unset, .unset, .unset, .unset] [(.int p4)])) _
    refine XS.bipush X0.here hx rfl (hb hby at_24) ?_
    refine XS.iushr X0.here hx rfl (hb hby at_26) rfl ?_
    refine XS.iconst X0.here hx rfl (hb hby at_27) ?_
    refine XS.iand X0.here hx rfl (hb hby at_28) rfl ?_
    refine XS.ifNo X0.here hx rfl (hb hby at_29) rfl ((if0 _ _).trans (feq hc29).1) ?_
    refine XS.iconst X0.here hx rfl (hb hby at_32) ?_
    show Steps p.tables e below (s₁.setTop (mkF m 33 #[.val (.int p0), .val (.int p1), .val (.int p2), .val (.int p3), .val (.int p4), .val (.int p5), .val (.long wa), .second, .val (.long wb), .second, .unset, .unset, .unset, .unset, .unset, .unset, .unset, .unset, .unset, .unset, .unset, .unset, .unset] [(.int (1 : Int32))])) _
    refine XS.goto X0.here hx rfl (pc0 := 33) (pc' := 37) rfl (hb hby at_33) (by decide) (by decide) ?_
    refine XS.istore X0.here hx rfl (hb hby at_37) rfl (l' := #[.val (.int p0), .val (.int p1), .val (.int p2), .val (.int p3), .val (.int p4), .val (.int p5), .val (.long wa), .second, .val (.long wb), .second, .val (.int (1 : Int32)), .unset, .unset, .unset, .unset, .unset, .unset, .unset, .unset, .unset, .unset, .unset, .unset]) rfl ?_
    refine XS.iload X0.here hx rfl (hb hby at_39) rfl ?_
    refine XS.bipush X0.here hx rfl (hb hby at_41) ?_
    refine XS.iushr X0.here hx rfl (hb hby at_43) rfl ?_
    refine XS.iconst X0.here hx rfl (hb hby at_44) ?_
    show Steps p.tables e below (s₁.setTop (mkF m 45 #[.val (.int p0), .val (.int p1), .val (.int p2), .val (.int p3), .val (.int p4), .val (.int p5), .val (.long wa), .second, .val (.long wb), .second, .val (.int (1 : Int32)), .unset, .unset, .unset, .unset, .unset, .unset, .unset, .unset, .unset, .unset, .unset, .unset] [(.int (3 : Int32)), (.int ((p5.toUInt32 >>> ((10 : Int32) &&& 31).toUInt32).toInt32))])) _
    refine XS.iand X0.here hx rfl (hb hby at_45) rfl ?_
    refine XS.ifYes X0.here hx rfl (pc0 := 46) (pc' := 53) rfl (hb hby at_46) rfl ((if0 _ _).trans (teq hc46).1) (by decide) (by decide) ?_
    refine XS.iconst X0.here hx rfl (hb hby at_53) ?_
    refine XS.istore X0.here hx rfl (hb hby at_54) rfl (l' := #[.val (.int p0), .val (.int p1), .val (.int p2), .val (.int p3), .val (.int p4), .val (.int p5), .val (.long wa), .second, .val (.long wb), .second, .val (.int (1 : Int32)), .val (.int (0 : Int32)), .unset, .unset, .unset, .unset, .unset, .unset, .unset, .unset, .unset, .unset, .unset]) rfl ?_
    refine XS.iloadN X0.here hx rfl (hb hby at_56) rfl ?_
    refine XS.sipush X0.here hx rfl (hb hby at_57) ?_
    show Steps p.tables e below (s₁.setTop (mkF m 60 #[.val (.int p0), .val (.int p1), .val (.int p2), .val (.int p3), .val (.int p4), .val (.int p5), .val (.long wa), .second, .val (.long wb), .second, .val (.int (1 : Int32)), .val (.int (0 : Int32)), .unset, .unset, .unset, .unset, .unset, .unset, .unset, .unset, .unset, .unset, .unset] [(.int (1024 : Int32)), (.int p2)])) _
    refine iremM (g := (mkF m 60 #[.val (.int p0), .val (.int p1), .val (.int p2), .val (.int p3), .val (.int p4), .val (.int p5), .val (.long wa), .second, .val (.long wb), .second, .val (.int (1 : Int32)), .val (.int (0 : Int32)), .unset, .unset, .unset, .unset, .unset, .unset, .unset, .unset, .unset, .unset, .unset] [(.int (1024 : Int32)), (.int p2)])) X0 hx rfl (hb hby at_60) rfl (by decide) ?_
    show Steps p.tables e below (s₁.setTop (mkF m 61 #[.val (.int p0), .val (.int p1), .val (.int p2), .val (.int p3), .val (.int p4), .val (.int p5), .val (.long wa), .second, .val (.long wb), .second, .val (.int (1 : Int32)), .val (.int (0 : Int32)), .unset, .unset, .unset, .unset, .unset, .unset, .unset, .unset, .unset, .unset, .unset] [(.int (p2 % (1024 : Int32)))])) _
    refine XS.i2l X0.here hx rfl (hb hby at_61) rfl ?_
    show Steps p.tables e below (s₁.setTop (mkF m 62 #[.val (.int p0), .val (.int p1), .val (.int p2), .val (.int p3), .val (.int p4), .val (.int p5), .val (.long wa), .second, .val (.long wb), .second, .val (.int (1 : Int32)), .val (.int (0 : Int32)), .unset, .unset, .unset, .unset, .unset, .unset, .unset, .unset, .unset, .unset, .unset] [(.long ((p2 % (1024 : Int32)).toInt64))])) _
    rw [hv61]
    show Steps p.tables e below (s₁.setTop (mkF m 62 #[.val (.int p0), .val (.int p1), .val (.int p2), .val (.int p3), .val (.int p4), .val (.int p5), .val (.long wa), .second, .val (.long wb), .second, .val (.int (1 : Int32)), .val (.int (0 : Int32)), .unset, .unset, .unset, .unset, .unset, .unset, .unset, .unset, .unset, .unset, .unset] [(.long ra)])) _
    refine XS.lstore X0.here hx rfl (hb hby at_62) rfl (l' := #[.val (.int p0), .val (.int p1), .val (.int p2), .val (.int p3), .val (.int p4), .val (.int p5), .val (.long wa), .second, .val (.long wb), .second, .val (.int (1 : Int32)), .val (.int (0 : Int32)), .val (.long ra), .second, .unset, .unset, .unset, .unset, .unset, .unset, .unset, .unset, .unset]) rfl ?_
    refine XS.iloadN X0.here hx rfl (hb hby at_64) rfl ?_
    refine XS.sipush X0.here hx rfl (hb hby at_65) ?_
    show Steps p.tables e below (s₁.setTop (mkF m 68 #[.val (.int p0), .val (.int p1), .val (.int p2), .val (.int p3), .val (.int p4), .val (.int p5), .val (.long wa), .second, .val (.long wb), .second, .val (.int (1 : Int32)), .val (.int (0 : Int32)), .val (.long ra), .second, .unset, .unset, .unset, .unset, .unset, .unset, .unset, .unset, .unset] [(.int (1024 : Int32)), (.int p3)])) _
    refine iremM (g := (mkF m 68 #[.val (.int p0), .val (.int p1), .val (.int p2), .val (.int p3), .val (.int p4), .val (.int p5), .val (.long wa), .second, .val (.long wb), .second, .val (.int (1 : Int32)), .val (.int (0 : Int32)), .val (.long ra), .second, .unset, .unset, .unset, .unset, .unset, .unset, .unset, .unset, .unset] [(.int (1024 : Int32)), (.int p3)])) X0 hx rfl (hb hby at_68) rfl (by decide) ?_
    show Steps p.tables e below (s₁.setTop (mkF m 69 #[.val (.int p0), .val (.int p1), .val (.int p2), .val (.int p3), .val (.int p4), .val (.int p5), .val (.long wa), .second, .val (.long wb), .second, .val (.int (1 : Int32)), .val (.int (0 : Int32)), .val (.long ra), .second, .unset, .unset, .unset, .unset, .unset, .unset, .unset, .unset, .unset] [(.int (p3 % (1024 : Int32)))])) _
    refine XS.i2l X0.here hx rfl (hb hby at_69) rfl ?_
    show Steps p.tables e below (s₁.setTop (mkF m 70 #[.val (.int p0), .val (.int p1), .val (.int p2), .val (.int p3), .val (.int p4), .val (.int p5), .val (.long wa), .second, .val (.long wb), .second, .val (.int (1 : Int32)), .val (.int (0 : Int32)), .val (.long ra), .second, .unset, .unset, .unset, .unset, .unset, .unset, .unset, .unset, .unset] [(.long ((p3 % (1024 : Int32)).toInt64))])) _
    rw [hv69]
    show Steps p.tables e below (s₁.setTop (mkF m 70 #[.val (.int p0), .val (.int p1), .val (.int p2), .val (.int p3), .val (.int p4), .val (.int p5), .val (.long wa), .second, .val (.long wb), .second, .val (.int (1 : Int32)), .val (.int (0 : Int32)), .val (.long ra), .second, .unset, .unset, .unset, .unset, .unset, .unset, .unset, .unset, .unset] [(.long rb)])) _
    refine XS.lstore X0.here hx rfl (hb hby at_70) rfl (l' := #[.val (.int p0), .val (.int p1), .val (.int p2), .val (.int p3), .val (.int p4), .val (.int p5), .val (.long wa), .second, .val (.long wb), .second, .val (.int (1 : Int32)), .val (.int (0 : Int32)), .val (.long ra), .second, .val (.long rb), .second, .unset, .unset, .unset, .unset, .unset, .unset, .unset]) rfl ?_
    refine st1 _ ?_
    show Steps p.tables e below (T1.setTop (mkF m 75 #[.val (.int p0), .val (.int p1), .val (.int p2), .val (.int p3), .val (.int p4), .val (.int p5), .val (.long wa), .second, .val (.long wb), .second, .val (.int (1 : Int32)), .val (.int (0 : Int32)), .val (.long ra), .second, .val (.long rb), .second, .unset, .unset, .unset, .unset, .unset, .unset, .unset] [(.ref b1)])) _
    refine XS.dup X1.here hx rfl (hb hby at_75) rfl rfl ?_
    show Steps p.tables e below (T1.setTop (mkF m 76 #[.val (.int p0), .val (.int p1), .val (.int p2), .val (.int p3), .val (.int p4), .val (.int p5), .val (.long wa), .second, .val (.long wb), .second, .val (.int (1 : Int32)), .val (.int (0 : Int32)), .val (.long ra), .second, .val (.long rb), .second, .unset, .unset, .unset, .unset, .unset, .unset, .unset] [(.ref b1), (.ref b1)])) _
    refine st2.trans ?_
    show Steps p.tables e below (T2.setTop (mkF m 79 #[.val (.int p0), .val (.int p1), .val (.int p2), .val (.int p3), .val (.int p4), .val (.int p5), .val (.long wa), .second, .val (.long wb), .second, .val (.int (1 : Int32)), .val (.int (0 : Int32)), .val (.long ra), .second, .val (.long rb), .second, .unset, .unset, .unset, .unset, .unset, .unset, .unset] [(.ref b1)])) _
    refine XS.astore X2.here hx rfl (hb hby at_79) rfl rfl (l' := #[.val (.int p0), .val (.int p1), .val (.int p2), .val (.int p3), .val (.int p4), .val (.int p5), .val (.long wa), .second, .val (.long wb), .second, .val (.int (1 : Int32)), .val (.int (0 : Int32)), .val (.long ra), .second, .val (.long rb), .second, .val (.ref b1), .unset, .unset, .unset, .unset, .unset, .unset]) rfl ?_
    refine XS.iload X2.here hx rfl (hb hby at_81) rfl ?_
    refine XS.ifNo X2.here hx rfl (hb hby at_83) rfl ((if0 _ _).trans (feq (by decide : ¬ ((1 : Int32) = (0 : Int32)))).1) ?_
    refine XS.aload X2.here hx rfl (hb hby at_86) rfl rfl ?_
    refine XS.lload X2.here hx rfl (hb hby at_88) rfl ?_
    show Steps p.tables e below (T2.setTop (mkF m 90 #[.val (.int p0), .val (.int p1), .val (.int p2), .val (.int p3), .val (.int p4), .val (.int p5), .val (.long wa), .second, .val (.long wb), .second, .val (.int (1 : Int32)), .val (.int (0 : Int32)), .val (.long ra), .second, .val (.long rb), .second, .val (.ref b1), .unset, .unset, .unset, .unset, .unset, .unset] [(.long wa), (.ref b1)])) _
    refine XS.l2dS X2.here hx rfl (hb hby at_90) rfl (v := (FP.l2d wa)) rfl ?_
    refine XS.lload X2.here hx rfl (hb hby at_91) rfl ?_
    refine XS.iloadN X2.here hx rfl (hb hby at_93) rfl ?_
    refine XS.i2l X2.here hx rfl (hb hby at_94) rfl ?_
    refine XS.lmul X2.here hx rfl (hb hby at_95) rfl ?_
    show Steps p.tables e below (T2.setTop (mkF m 96 #[.val (.int p0), .val (.int p1), .val (.int p2), .val (.int p3), .val (.int p4), .val (.int p5), .val (.long wa), .second, .val (.long wb), .second, .val (.int (1 : Int32)), .val (.int (0 : Int32)), .val (.long ra), .second, .val (.long rb), .second, .val (.ref b1), .unset, .unset, .unset, .unset, .unset, .unset] [(.long (ra * (p0.toInt64))), (.double (FP.l2d wa)), (.ref b1)])) _
    rw [hv95]
    show Steps p.tables e below (T2.setTop (mkF m 96 #[.val (.int p0), .val (.int p1), .val (.int p2), .val (.int p3), .val (.int p4), .val (.int p5), .val (.long wa), .second, .val (.long wb), .second, .val (.int (1 : Int32)), .val (.int (0 : Int32)), .val (.long ra), .second, .val (.long rb), .second, .val (.ref b1), .unset, .unset, .unset, .unset, .unset, .unset] [(.long xa), (.double (FP.l2d wa)), (.ref b1)])) _
    refine XS.l2dS X2.here hx rfl (hb hby at_96) rfl (v := (FP.l2d xa)) rfl ?_
    refine XS.iloadN X2.here hx rfl (hb hby at_97) rfl ?_
    refine XS.i2l X2.here hx rfl (hb hby at_98) rfl ?_
    refine st3.trans ?_
    show Steps p.tables e below (T3.setTop (mkF m 102 #[.val (.int p0), .val (.int p1), .val (.int p2), .val (.int p3), .val (.int p4), .val (.int p5), .val (.long wa), .second, .val (.long wb), .second, .val (.int (1 : Int32)), .val (.int (0 : Int32)), .val (.long ra), .second, .val (.long rb), .second, .val (.ref b1), .unset, .unset, .unset, .unset, .unset, .unset] [])) _
    refine XS.iload X3.here hx rfl (hb hby at_102) rfl ?_
    refine XS.ifYes X3.here hx rfl (pc0 := 104) (pc' := 123) rfl (hb hby at_104) rfl ((if0 _ _).trans (teq (by decide : (0 : Int32) = (0 : Int32))).1) (by decide) (by decide) ?_
    show Steps p.tables e below (T3.setTop (mkF m 123 #[.val (.int p0), .val (.int p1), .val (.int p2), .val (.int p3), .val (.int p4), .val (.int p5), .val (.long wa), .second, .val (.long wb), .second, .val (.int (1 : Int32)), .val (.int (0 : Int32)), .val (.long ra), .second, .val (.long rb), .second, .val (.ref b1), .unset, .unset, .unset, .unset, .unset, .unset] [])) _
    refine XS.lconst X3.here hx rfl (hb hby at_123) ?_
    refine XS.lstore X3.here hx rfl (hb hby at_124) rfl (l' := #[.val (.int p0), .val (.int p1), .val (.int p2), .val (.int p3), .val (.int p4), .val (.int p5), .val (.long wa), .second, .val (.long wb), .second, .val (.int (1 : Int32)), .val (.int (0 : Int32)), .val (.long ra), .second, .val (.long rb), .second, .val (.ref b1), .val (.long (0 : Int64)), .second, .unset, .unset, .unset, .unset]) rfl ?_
    refine XS.lconst X3.here hx rfl (hb hby at_126) ?_
    refine XS.lstore X3.here hx rfl (hb hby at_127) rfl (l' := #[.val (.int p0), .val (.int p1), .val (.int p2), .val (.int p3), .val (.int p4), .val (.int p5), .val (.long wa), .second, .val (.long wb), .second, .val (.int (1 : Int32)), .val (.int (0 : Int32)), .val (.long ra), .second, .val (.long rb), .second, .val (.ref b1), .val (.long (0 : Int64)), .second, .val (.long (0 : Int64)), .second, .unset, .unset]) rfl ?_
    refine XS.iload X3.here hx rfl (hb hby at_129) rfl ?_
    refine XS.ifNo X3.here hx rfl (hb hby at_131) rfl ((if0 _ _).trans (feq (by decide : ¬ ((1 : Int32) = (0 : Int32)))).1) ?_
    show Steps p.tables e below (T3.setTop (mkF m 134 #[.val (.int p0), .val (.int p1), .val (.int p2), .val (.int p3), .val (.int p4), .val (.int p5), .val (.long wa), .second, .val (.long wb), .second, .val (.int (1 : Int32)), .val (.int (0 : Int32)), .val (.long ra), .second, .val (.long rb), .second, .val (.ref b1), .val (.long (0 : Int64)), .second, .val (.long (0 : Int64)), .second, .unset, .unset] [])) _
    refine XS.iloadN X3.here hx rfl (hb hby at_134) rfl ?_
    refine XS.ifYes X3.here hx rfl (pc0 := 135) (pc' := 155) rfl (hb hby at_135) rfl ((if0 _ _).trans (flt hc135).2.2.2) (by decide) (by decide) ?_
    refine XS.iload X3.here hx rfl (hb hby at_155) rfl ?_
    refine XS.ifYes X3.here hx rfl (pc0 := 157) (pc' := 181) rfl (hb hby at_157) rfl ((if0 _ _).trans (teq (by decide : (0 : Int32) = (0 : Int32))).1) (by decide) (by decide) ?_
    refine XS.aload X3.here hx rfl (hb hby at_181) rfl rfl ?_
    refine st16.trans ?_
    show Steps p.tables e below (T16.setTop (mkF m 186 #[.val (.int p0), .val (.int p1), .val (.int p2), .val (.int p3), .val (.int p4), .val (.int p5), .val (.long wa), .second, .val (.long wb), .second, .val (.int (1 : Int32)), .val (.int (0 : Int32)), .val (.long ra), .second, .val (.long rb), .second, .val (.ref b1), .val (.long (0 : Int64)), .second, .val (.long (0 : Int64)), .second, .unset, .unset] [(.double (9221120237041090560 : UInt64))])) _
    refine XS.dstore X16.here hx rfl (hb hby at_186) rfl (l' := #[.val (.int p0), .val (.int p1), .val (.int p2), .val (.int p3), .val (.int p4), .val (.int p5), .val (.long wa), .second, .val (.long wb), .second, .val (.int (1 : Int32)), .val (.int (0 : Int32)), .val (.long ra), .second, .val (.long rb), .second, .val (.ref b1), .val (.long (0 : Int64)), .second, .val (.long (0 : Int64)), .second, .val (.double (9221120237041090560 : UInt64)), .second]) rfl ?_
    refine XS.lload X16.here hx rfl (hb hby at_188) rfl ?_
    refine XS.lconst X16.here hx rfl (hb hby at_190) ?_
    refine XS.lcmp X16.here hx rfl (hb hby at_191) rfl ?_
    show Steps p.tables e below (T16.setTop (mkF m 192 #[.val (.int p0), .val (.int p1), .val (.int p2), .val (.int p3), .val (.int p4), .val (.int p5), .val (.long wa), .second, .val (.long wb), .second, .val (.int (1 : Int32)), .val (.int (0 : Int32)), .val (.long ra), .second, .val (.long rb), .second, .val (.ref b1), .val (.long (0 : Int64)), .second, .val (.long (0 : Int64)), .second, .val (.double (9221120237041090560 : UInt64)), .second] [(.int (lcmpW (0 : Int64) (0 : Int64)))])) _
    rw [show (lcmpW (0 : Int64) (0 : Int64)) = (0 : Int32) by decide]
    show Steps p.tables e below (T16.setTop (mkF m 192 #[.val (.int p0), .val (.int p1), .val (.int p2), .val (.int p3), .val (.int p4), .val (.int p5), .val (.long wa), .second, .val (.long wb), .second, .val (.int (1 : Int32)), .val (.int (0 : Int32)), .val (.long ra), .second, .val (.long rb), .second, .val (.ref b1), .val (.long (0 : Int64)), .second, .val (.long (0 : Int64)), .second, .val (.double (9221120237041090560 : UInt64)), .second] [(.int (0 : Int32))])) _
    refine XS.ifNo X16.here hx rfl (hb hby at_192) rfl ((if0 _ _).trans (teq (by decide : (0 : Int32) = (0 : Int32))).2) ?_
    show Steps p.tables e below (T16.setTop (mkF m 195 #[.val (.int p0), .val (.int p1), .val (.int p2), .val (.int p3), .val (.int p4), .val (.int p5), .val (.long wa), .second, .val (.long wb), .second, .val (.int (1 : Int32)), .val (.int (0 : Int32)), .val (.long ra), .second, .val (.long rb), .second, .val (.ref b1), .val (.long (0 : Int64)), .second, .val (.long (0 : Int64)), .second, .val (.double (9221120237041090560 : UInt64)), .second] [])) _
    refine XS.dload X16.here hx rfl (hb hby at_195) rfl ?_
    refine XS.dload X16.here hx rfl (hb hby at_197) rfl ?_
    refine XS.dcmpS X16.here hx rfl (hb hby at_199) rfl (v := (-1 : Int32)) hd199 ?_
    refine XS.ifNo X16.here hx rfl (hb hby at_200) rfl ((if0 _ _).trans (feq (by decide : ¬ ((-1 : Int32) = (0 : Int32)))).1) ?_
    refine XS.iconst X16.here hx rfl (hb hby at_203) ?_
    refine XS.goto X16.here hx rfl (pc0 := 204) (pc' := 208) rfl (hb hby at_204) (by decide) (by decide) ?_
    show Steps p.tables e below (T16.setTop (mkF m 208 #[.val (.int p0), .val (.int p1), .val (.int p2), .val (.int p3), .val (.int p4), .val (.int p5), .val (.long wa), .second, .val (.long wb), .second, .val (.int (1 : Int32)), .val (.int (0 : Int32)), .val (.long ra), .second, .val (.long rb), .second, .val (.ref b1), .val (.long (0 : Int64)), .second, .val (.long (0 : Int64)), .second, .val (.double (9221120237041090560 : UInt64)), .second] [(.int (1 : Int32))])) _
    exact retN X16 hx (t := .boolean) Bd.returns (by simp) (hb hby at_208) hr
  · show Q0 n0 _ T16.heap _
    rw [e16]
    exact ⟨rfl, N16⟩
set_option maxRecDepth 65536 in
set_option maxHeartbeats 40000000 in
theorem rm0_zp (l : Launch) (Z : State) (a0 : Array Value) (hw : ∀ d ∈ tables_1, d.before a0 Z = true) (ws : List Jvm.Cond) (p0 : Int32) (p1 : Int32) (p2 : Int32) (p3 : Int32) (p4 : Int32) (p5 : Int32) (ob1 : UInt64) (pb1 : UInt64) (w1 : UInt64) (so1 : UInt64) (sp1 : UInt64) (oa1 : UInt64) (pa1 : UInt64) (ma1 : UInt64) (mb1 : UInt64) (mc1 : UInt64) (zw1 : UInt64) (ob2 : UInt64) (pb2 : UInt64) (w2 : UInt64) (so2 : UInt64) (sp2 : UInt64) (oa2 : UInt64) (pa2 : UInt64) (ma2 : UInt64) (mb2 : UInt64) (mc2 : UInt64) (pw2 : UInt64) (wr2 : UInt64) (wa : Int64) (wb : Int64) (ra : Int64) (rb : Int64) (xa : Int64) (xb : Int64) (pB : Int64) (nB : Int64) (h0 : Heap) (n0 : Nat) (Z0 : n0 ≤ h0.size) (hv8 : (((p4 &&& (1023 : Int32)) + (1 : Int32)).toInt64) = wa) (hv19 : (((p5 &&& (1023 : Int32)) + (1 : Int32)).toInt64) = wb) (hc29 : ¬ ((((p4.toUInt32 >>> ((10 : Int32) &&& 31).toUInt32).toInt32) &&& (3 : Int32)) = (0 : Int32))) (hc46 : ¬ ((((p5.toUInt32 >>> ((10 : Int32) &&& 31).toUInt32).toInt32) &&& (3 : Int32)) = (0 : Int32))) (hv61 : ((p2 % (1024 : Int32)).toInt64) = ra) (hv69 : ((p3 % (1024 : Int32)).toInt64) = rb) (hv95 : (ra * (p0.toInt64)) = xa) (nn5_99 : Jvm.Free.Fl.NoNaN64 (FP.dsub (FP.l2d xa) (0 : UInt64))) (hq5_99 : (FP.dsub (FP.l2d xa) (0 : UInt64)) = ob1) (nn15_99 : Jvm.Free.Fl.NoNaN64 (FP.dsub (FP.l2d (p0.toInt64)) (0 : UInt64))) (hq15_99 : (FP.dsub (FP.l2d (p0.toInt64)) (0 : UInt64)) = pb1) (nn34_99 : Jvm.Free.Fl.NoNaN64 (FP.dadd (0 : UInt64) (FP.l2d wa))) (hq34_99 : (FP.dadd (0 : UInt64) (FP.l2d wa)) = w1) (nn45_99 : Jvm.Free.Fl.NoNaN64 (FP.dmul (FP.l2d wa) (FP.l2d xa))) (nn46_99 : Jvm.Free.Fl.NoNaN64 (FP.dadd (0 : UInt64) (FP.dmul (FP.l2d wa) (FP.l2d xa)))) (hq46_99 : (FP.dadd (0 : UInt64) (FP.dmul (FP.l2d wa) (FP.l2d xa))) = so1) (nn59_99 : Jvm.Free.Fl.NoNaN64 (FP.dmul (FP.l2d wa) (FP.l2d (p0.toInt64)))) (nn60_99 : Jvm.Free.Fl.NoNaN64 (FP.dadd (0 : UInt64) (FP.dmul (FP.l2d wa) (FP.l2d (p0.toInt64))))) (hq60_99 : (FP.dadd (0 : UInt64) (FP.dmul (FP.l2d wa) (FP.l2d (p0.toInt64)))) = sp1) (nn21_66_99 : Jvm.Free.Fl.NoNaN64 (FP.ddiv so1 w1)) (nn69_99 : Jvm.Free.Fl.NoNaN64 (FP.dsub (FP.l2d xa) (FP.ddiv so1 w1))) (hq69_99 : (FP.dsub (FP.l2d xa) (FP.ddiv so1 w1)) = oa1) (nn21_76_99 : Jvm.Free.Fl.NoNaN64 (FP.ddiv sp1 w1)) (nn79_99 : Jvm.Free.Fl.NoNaN64 (FP.dsub (FP.l2d (p0.toInt64)) (FP.ddiv sp1 w1))) (hq79_99 : (FP.dsub (FP.l2d (p0.toInt64)) (FP.ddiv sp1 w1)) = pa1) (nn90_99 : Jvm.Free.Fl.NoNaN64 (FP.dmul (FP.l2d wa) ob1)) (nn93_99 : Jvm.Free.Fl.NoNaN64 (FP.dmul (FP.dmul (FP.l2d wa) ob1) oa1)) (nn94_99 : Jvm.Free.Fl.NoNaN64 (FP.dadd (0 : UInt64) (FP.dmul (FP.dmul (FP.l2d wa) ob1) oa1))) (hq94_99 : (FP.dadd (0 : UInt64) (FP.dmul (FP.dmul (FP.l2d wa) ob1) oa1)) = ma1) (nn106_99 : Jvm.Free.Fl.NoNaN64 (FP.dmul (FP.l2d wa) pb1)) (nn109_99 : Jvm.Free.Fl.NoNaN64 (FP.dmul (FP.dmul (FP.l2d wa) pb1) pa1)) (nn110_99 : Jvm.Free.Fl.NoNaN64 (FP.dadd (0 : UInt64) (FP.dmul (FP.dmul (FP.l2d wa) pb1) pa1))) (hq110_99 : (FP.dadd (0 : UInt64) (FP.dmul (FP.dmul (FP.l2d wa) pb1) pa1)) = mb1) (nn122_99 : Jvm.Free.Fl.NoNaN64 (FP.dmul (FP.l2d wa) ob1)) (nn125_99 : Jvm.Free.Fl.NoNaN64 (FP.dmul (FP.dmul (FP.l2d wa) ob1) pa1)) (nn126_99 : Jvm.Free.Fl.NoNaN64 (FP.dadd (0 : UInt64) (FP.dmul (FP.dmul (FP.l2d wa) ob1) pa1))) (hq126_99 : (FP.dadd (0 : UInt64) (FP.dmul (FP.dmul (FP.l2d wa) ob1) pa1)) = mc1) (hc134_99 : ¬ ((0 : Int32) < (lcmpW (p0.toInt64) (0 : Int64)))) (nn172_99 : Jvm.Free.Fl.NoNaN64 (FP.dadd (0 : UInt64) (FP.l2d wa))) (hq172_99 : (FP.dadd (0 : UInt64) (FP.l2d wa)) = zw1) (hv116 : (rb * (p1.toInt64)) = xb) (nn21_2_120 : Jvm.Free.Fl.NoNaN64 (FP.ddiv so1 w1)) (nn5_120 : Jvm.Free.Fl.NoNaN64 (FP.dsub (FP.l2d xb) (FP.ddiv so1 w1))) (hq5_120 : (FP.dsub (FP.l2d xb) (FP.ddiv so1 w1)) = ob2) (nn21_12_120 : Jvm.Free.Fl.NoNaN64 (FP.ddiv sp1 w1)) (nn15_120 : Jvm.Free.Fl.NoNaN64 (FP.dsub (FP.l2d (p1.toInt64)) (FP.ddiv sp1 w1))) (hq15_120 : (FP.dsub (FP.l2d (p1.toInt64)) (FP.ddiv sp1 w1)) = pb2) (nn34_120 : Jvm.Free.Fl.NoNaN64 (FP.dadd w1 (FP.l2d wb))) (hq34_120 : (FP.dadd w1 (FP.l2d wb)) = w2) (nn45_120 : Jvm.Free.Fl.NoNaN64 (FP.dmul (FP.l2d wb) (FP.l2d xb))) (nn46_120 : Jvm.Free.Fl.NoNaN64 (FP.dadd so1 (FP.dmul (FP.l2d wb) (FP.l2d xb)))) (hq46_120 : (FP.dadd so1 (FP.dmul (FP.l2d wb) (FP.l2d xb))) = so2) (nn59_120 : Jvm.Free.Fl.NoNaN64 (FP.dmul (FP.l2d wb) (FP.l2d (p1.toInt64)))) (nn60_120 : Jvm.Free.Fl.NoNaN64 (FP.dadd sp1 (FP.dmul (FP.l2d wb) (FP.l2d (p1.toInt64))))) (hq60_120 : (FP.dadd sp1 (FP.dmul (FP.l2d wb) (FP.l2d (p1.toInt64)))) = sp2) (nn21_66_120 : Jvm.Free.Fl.NoNaN64 (FP.ddiv so2 w2)) (nn69_120 : Jvm.Free.Fl.NoNaN64 (FP.dsub (FP.l2d xb) (FP.ddiv so2 w2))) (hq69_120 : (FP.dsub (FP.l2d xb) (FP.ddiv so2 w2)) = oa2) (nn21_76_120 : Jvm.Free.Fl.NoNaN64 (FP.ddiv sp2 w2)) (nn79_120 : Jvm.Free.Fl.NoNaN64 (FP.dsub (FP.l2d (p1.toInt64)) (FP.ddiv sp2 w2))) (hq79_120 : (FP.dsub (FP.l2d (p1.toInt64)) (FP.ddiv sp2 w2)) = pa2) (nn90_120 : Jvm.Free.Fl.NoNaN64 (FP.dmul (FP.l2d wb) ob2)) (nn93_120 : Jvm.Free.Fl.NoNaN64 (FP.dmul (FP.dmul (FP.l2d wb) ob2) oa2)) (nn94_120 : Jvm.Free.Fl.NoNaN64 (FP.dadd ma1 (FP.dmul (FP.dmul (FP.l2d wb) ob2) oa2))) (hq94_120 : (FP.dadd ma1 (FP.dmul (FP.dmul (FP.l2d wb) ob2) oa2)) = ma2) (nn106_120 : Jvm.Free.Fl.NoNaN64 (FP.dmul (FP.l2d wb) pb2)) (nn109_120 : Jvm.Free.Fl.NoNaN64 (FP.dmul (FP.dmul (FP.l2d wb) pb2) pa2)) (nn110_120 : Jvm.Free.Fl.NoNaN64 (FP.dadd mb1 (FP.dmul (FP.dmul (FP.l2d wb) pb2) pa2))) (hq110_120 : (FP.dadd mb1 (FP.dmul (FP.dmul (FP.l2d wb) pb2) pa2)) = mb2) (nn122_120 : Jvm.Free.Fl.NoNaN64 (FP.dmul (FP.l2d wb) ob2)) (nn125_120 : Jvm.Free.Fl.NoNaN64 (FP.dmul (FP.dmul (FP.l2d wb) ob2) pa2)) (nn126_120 : Jvm.Free.Fl.NoNaN64 (FP.dadd mc1 (FP.dmul (FP.dmul (FP.l2d wb) ob2) pa2))) (hq126_120 : (FP.dadd mc1 (FP.dmul (FP.dmul (FP.l2d wb) ob2) pa2)) = mc2) (hc134_120 : (0 : Int32) < (lcmpW (p1.toInt64) (0 : Int64))) (nn143_120 : Jvm.Free.Fl.NoNaN64 (FP.dadd (0 : UInt64) (FP.l2d wb))) (hq143_120 : (FP.dadd (0 : UInt64) (FP.l2d wb)) = pw2) (nn157_120 : Jvm.Free.Fl.NoNaN64 (FP.ddiv (FP.l2d xb) (FP.l2d (p1.toInt64)))) (nn158_120 : Jvm.Free.Fl.NoNaN64 (FP.dmul (FP.l2d wb) (FP.ddiv (FP.l2d xb) (FP.l2d (p1.toInt64))))) (nn159_120 : Jvm.Free.Fl.NoNaN64 (FP.dadd (0 : UInt64) (FP.dmul (FP.l2d wb) (FP.ddiv (FP.l2d xb) (FP.l2d (p1.toInt64)))))) (hq159_120 : (FP.dadd (0 : UInt64) (FP.dmul (FP.l2d wb) (FP.ddiv (FP.l2d xb) (FP.l2d (p1.toInt64))))) = wr2) (hc135 : ¬ ((0 : Int32) < p0)) (hc161 : (0 : Int32) < p1) (hv168 : ((0 : Int64) + wb) = pB) (hv178 : ((0 : Int64) + (wb * rb)) = nB) (hd5_183 : (cmpValue (FP.dcmp pw2 (0 : UInt64)) .l) = (1 : Int32)) (nn23_183 : Jvm.Free.Fl.NoNaN64 (FP.ddiv wr2 pw2)) (hc192 : ¬ ((lcmpW pB (0 : Int64)) = (0 : Int32))) (nn217 : Jvm.Free.Fl.NoNaN64 (FP.ddiv (FP.l2d nB) (FP.l2d pB))) (hd218 : (cmpValue (FP.dcmp (FP.ddiv wr2 pw2) (FP.ddiv (FP.l2d nB) (FP.l2d pB))) .l) = (0 : Int32)) :
    MetFree l x (head1 (Jvm.Cond.code x code maxLocals ret :: ws) room_1) (fun a U => a = #[(.int p0), (.int p1), (.int p2), (.int p3), (.int p4), (.int p5)] ∧ Z.Warmed39 U.vm ∧ U.heap = h0) (fun _ _ _ _ _ => True) (fun _ U o U' => ∃ v L, o = .returned v ∧ Q0 n0 v U'.heap L ∧ FrameEnd U o U' L room_1.cells room_1.slots) := by
  refine MetFree.of_bodySF (plainFor_of_name pn_com_example_arrivals_arrivals_core_SequenceStatisticsExpectedRatioPinLaw) hisR ?_
  intro p e s m args below meth c s₁ Bd hml0 hP hK
  obtain ⟨rfl, hZ, hh⟩ := hP
  have hx := Bd.exec
  have hby := Bd.bytes
  have hml : c.maxLocals = 23 := hml0
  have hown : s.vm.findClass "com/example/arrivals/arrivals/core/SequenceStatisticsExpectedRatioPinLaw" = some m.cls := findClass_of_methodNamed Bd.named
  have hnm := (name_of_methodNamed Bd.named Bd.method).1
  have X0 : Stand p l e room_1 s m #[(.int p0), (.int p1), (.int p2), (.int p3), (.int p4), (.int p5)] below meth c s₁ [] 0 0 := Stand.of_body Bd
  have e0 : s₁.heap = h0 := by rw [← hh, Bd.state]; rfl
  have N0 := Fr.nil n0
  have pre0 : ∀ t, Steps p.tables e below (s₁.setTop (mkF m 0 #[.val (.int p0), .val (.int p1), .val (.int p2), .val (.int p3), .val (.int p4), .val (.int p5), .unset, .unset, .unset, .unset, .unset, .unset, .unset, .unset, .unset, .unset, .unset, .unset, .unset, .unset, .unset, .unset, .unset] [])) t → Steps p.tables e below (s₁.setTop (entryFrame m #[(.int p0), (.int p1), (.int p2), (.int p3), (.int p4), (.int p5)] maxLocals)) t := fun t k => castTop (ef_0_IIIIII m p0 p1 p2 p3 p4 p5) k
  obtain ⟨T1, h1, X1, e1, E1, A1, D1, -, st1⟩ := newO X0 hx hZ hown (hw _ (List.mem_of_getElem? (i := 0) rfl)) (hw _ (List.mem_of_getElem? (i := 1) rfl)) (hw _ (List.mem_of_getElem? (i := 2) rfl)) e0 (g := (mkF m 72 #[.val (.int p0), .val (.int p1), .val (.int p2), .val (.int p3), .val (.int p4), .val (.int p5), .val (.long wa), .second, .val (.long wb), .second, .val (.int (1 : Int32)), .val (.int (1 : Int32)), .val (.long ra), .second, .val (.long rb), .second, .unset, .unset, .unset, .unset, .unset, .unset, .unset] [])) rfl (hb hby at_72) (by decide) (by decide)
  obtain ⟨b1, g1⟩ : ∃ z, z = h0.size := ⟨_, rfl⟩
  rw [← g1] at A1 D1 st1
  have g_b1 : n0 ≤ b1 := Nat.le_trans Z0 (Nat.le_of_eq g1.symm)
  have sz_b1 : h0.size ≤ b1 := Nat.le_trans (Keep.refl h0 []).1 (Nat.le_of_eq g1.symm)
  have K1 : Keep h0 h1 [] := (Keep.refl h0 []).ext E1
  have Zs1 := Nat.le_trans Z0 E1.1
  have F1_positiveWeight : Fld Z h1 b1 "com/example/arrivals/arrivals/core/SequenceStatistics" "positiveWeight" "D" (.double (0 : UInt64)) := D1 (Or.inl (hw _ (List.mem_of_getElem? (i := 15) rfl))) (ty := .double) (by decide)
  have F1_count : Fld Z h1 b1 "com/example/arrivals/arrivals/core/SequenceStatistics" "count" "J" (.long (0 : Int64)) := D1 (Or.inl (hw _ (List.mem_of_getElem? (i := 28) rfl))) (ty := .long) (by decide)
  have F1_weight : Fld Z h1 b1 "com/example/arrivals/arrivals/core/SequenceStatistics" "weight" "D" (.double (0 : UInt64)) := D1 (Or.inl (hw _ (List.mem_of_getElem? (i := 35) rfl))) (ty := .double) (by decide)
  have F1_sumOnline : Fld Z h1 b1 "com/example/arrivals/arrivals/core/SequenceStatistics" "sumOnline" "D" (.double (0 : UInt64)) := D1 (Or.inl (hw _ (List.mem_of_getElem? (i := 37) rfl))) (ty := .double) (by decide)
  have F1_sumOptimum : Fld Z h1 b1 "com/example/arrivals/arrivals/core/SequenceStatistics" "sumOptimum" "D" (.double (0 : UInt64)) := D1 (Or.inl (hw _ (List.mem_of_getElem? (i := 39) rfl))) (ty := .double) (by decide)
  have F1_comomentOnline : Fld Z h1 b1 "com/example/arrivals/arrivals/core/SequenceStatistics" "comomentOnline" "D" (.double (0 : UInt64)) := D1 (Or.inl (hw _ (List.mem_of_getElem? (i := 41) rfl))) (ty := .double) (by decide)
  have F1_comomentOptimum : Fld Z h1 b1 "com/example/arrivals/arrivals/core/SequenceStatistics" "comomentOptimum" "D" (.double (0 : UInt64)) := D1 (Or.inl (hw _ (List.mem_of_getElem? (i := 43) rfl))) (ty := .double) (by decide)
  have F1_comomentBoth : Fld Z h1 b1 "com/example/arrivals/arrivals/core/SequenceStatistics" "comomentBoth" "D" (.double (0 : UInt64)) := D1 (Or.inl (hw _ (List.mem_of_getElem? (i := 45) rfl))) (ty := .double) (by decide)
  have F1_zeroWeight : Fld Z h1 b1 "com/example/arrivals/arrivals/core/SequenceStatistics" "zeroWeight" "D" (.double (0 : UInt64)) := D1 (Or.inl (hw _ (List.mem_of_getElem? (i := 47) rfl))) (ty := .double) (by decide)
  have F1_weightedRatios : Fld Z h1 b1 "com/example/arrivals/arrivals/core/SequenceStatistics" "weightedRatios" "D" (.double (0 : UInt64)) := D1 (Or.inl (hw _ (List.mem_of_getElem? (i := 49) rfl))) (ty := .double) (by decide)
  obtain ⟨_, _, ⟨T2, L2, k2, n2⟩, -, X2, ⟨Lc2, hQ2, l2, y2, z2⟩, st2⟩ := X1.specialBack hx (y := (⟨"com/example/arrivals/arrivals/core/SequenceStatistics", "<init>", "()V"⟩ : MethodName)) rfl hown (mvT hZ (hw _ (List.mem_of_getElem? (i := 3) rfl))) (mvT hZ (hw _ (List.mem_of_getElem? (i := 4) rfl))) (mvT hZ (hw _ (List.mem_of_getElem? (i := 5) rfl))) (by decide) (backOf (W := 1) (rm1 l Z a0 hw [] b1 h1 n0 Zs1 A1) hZ (hw _ (List.mem_of_getElem? (i := 5) rfl)) (hw _ (List.mem_of_getElem? (i := 2) rfl)) (by decide) (by decide)) (g := (mkF m 76 #[.val (.int p0), .val (.int p1), .val (.int p2), .val (.int p3), .val (.int p4), .val (.int p5), .val (.long wa), .second, .val (.long wb), .second, .val (.int (1 : Int32)), .val (.int (1 : Int32)), .val (.long ra), .second, .val (.long rb), .second, .unset, .unset, .unset, .unset, .unset, .unset, .unset] [(.ref b1), (.ref b1)])) rfl (by rw [hml]; rfl) (Steps.refl _) (a := b1) (argsL := []) (rest := [(.ref b1)]) (lenOf pd_1 rfl) rfl (by show 2 * 0 + _ ≤ _; exact Nat.le_of_eq rfl) (hb hby at_76) (fun _ _ => ⟨rfl, e1, (by decide : 1 + 0 ≤ _), (by decide : 10 + 0 ≤ _)⟩)
  dsimp only [Pt.U, Pt.locs, Pt.cells, Pt.slots] at X2 l2 y2 z2 st2 hQ2
  subst l2 y2 z2
  obtain ⟨rfl, N2q, eh2⟩ := hQ2
  have N2 := Fr.app N0 N2q
  have e2 : T2.heap = h1 := eh2
  obtain ⟨cq3, kq3, q3a, q3b, q3c⟩ := isOf hZ e2 A1
  obtain ⟨_, _, ⟨T3, L3, k3, n3⟩, -, X3, ⟨Lc3, hQ3, l3, y3, z3⟩, st3⟩ := X2.virtualBack hx (y := (⟨"com/example/arrivals/arrivals/core/SequenceStatistics", "add", "(DDJ)V"⟩ : MethodName)) (z := (⟨"com/example/arrivals/arrivals/core/SequenceStatistics", "add", "(DDJ)V"⟩ : MethodName)) hown (mvT hZ (hw _ (List.mem_of_getElem? (i := 17) rfl))) (mvT hZ (hw _ (List.mem_of_getElem? (i := 18) rfl))) (notFace_of_selects (args := #[]) (mvT hZ (hw _ (List.mem_of_getElem? (i := 20) rfl)))) (mvT hZ (hw _ (List.mem_of_getElem? (i := 20) rfl))) (mvT hZ (hw _ (List.mem_of_getElem? (i := 19) rfl))) (by decide) (backOf (W := 0) (rm4_0z l Z a0 hw [] b1 (FP.l2d wa) (FP.l2d xa) (p0.toInt64) ob1 pb1 w1 so1 sp1 oa1 pa1 ma1 mb1 mc1 zw1 h1 n0 Zs1 A1 g_b1 F1_count F1_weight F1_sumOnline F1_sumOptimum F1_comomentOnline F1_comomentOptimum F1_comomentBoth F1_positiveWeight F1_weightedRatios F1_zeroWeight nn5_99 hq5_99 nn15_99 hq15_99 nn34_99 hq34_99 nn45_99 nn46_99 hq46_99 nn59_99 nn60_99 hq60_99 nn21_66_99 nn69_99 hq69_99 nn21_76_99 nn79_99 hq79_99 nn90_99 nn93_99 nn94_99 hq94_99 nn106_99 nn109_99 nn110_99 hq110_99 nn122_99 nn125_99 nn126_99 hq126_99 hc134_99 nn172_99 hq172_99) hZ (hw _ (List.mem_of_getElem? (i := 21) rfl)) (hw _ (List.mem_of_getElem? (i := 2) rfl)) (by decide) (by decide)) q3a q3c (g := (mkF m 99 #[.val (.int p0), .val (.int p1), .val (.int p2), .val (.int p3), .val (.int p4), .val (.int p5), .val (.long wa), .second, .val (.long wb), .second, .val (.int (1 : Int32)), .val (.int (1 : Int32)), .val (.long ra), .second, .val (.long rb), .second, .val (.ref b1), .unset, .unset, .unset, .unset, .unset, .unset] [(.long (p0.toInt64)), (.double (FP.l2d xa)), (.double (FP.l2d wa)), (.ref b1)])) rfl (by rw [hml]; rfl) (Steps.refl _) (argsL := [(.double (FP.l2d wa)), (.double (FP.l2d xa)), (.long (p0.toInt64))]) (rest := []) (lenOf pd_2 rfl) rfl (by show 2 * 0 + _ ≤ _; exact Nat.le_of_eq rfl) (hb hby at_99) (fun _ _ => ⟨rfl, e2, (by decide : 1 + 0 ≤ _), (by decide : 10 + 0 ≤ _)⟩)
  dsimp only [Pt.U, Pt.locs, Pt.cells, Pt.slots] at X3 l3 y3 z3 st3 hQ3
  subst l3 y3 z3
  obtain ⟨rfl, N3q, K3q, f4, f5, f6, f7, f8, f9, f10, f11, f12, f13, f14⟩ := hQ3
  have N3 := Fr.app N2 N3q
  have f15 := A1.keep K3q
  have K3 : Keep h0 T3.heap [] := K1.trans K3q (own_allS (Or.inr sz_b1) own_all0)
  have Zs3 := Nat.le_trans Zs1 K3q.1
  obtain ⟨cq16, kq16, q16a, q16b, q16c⟩ := isOf hZ rfl f4
  obtain ⟨_, _, ⟨T16, L16, k16, n16⟩, -, X16, ⟨Lc16, hQ16, l16, y16, z16⟩, st16⟩ := X3.virtualBack hx (y := (⟨"com/example/arrivals/arrivals/core/SequenceStatistics", "add", "(DDJ)V"⟩ : MethodName)) (z := (⟨"com/example/arrivals/arrivals/core/SequenceStatistics", "add", "(DDJ)V"⟩ : MethodName)) hown (mvT hZ (hw _ (List.mem_of_getElem? (i := 17) rfl))) (mvT hZ (hw _ (List.mem_of_getElem? (i := 18) rfl))) (notFace_of_selects (args := #[]) (mvT hZ (hw _ (List.mem_of_getElem? (i := 20) rfl)))) (mvT hZ (hw _ (List.mem_of_getElem? (i := 20) rfl))) (mvT hZ (hw _ (List.mem_of_getElem? (i := 19) rfl))) (by decide) (backOf (W := 0) (rm4_1p l Z a0 hw [] b1 (FP.l2d wb) (FP.l2d xb) (p1.toInt64) w1 so1 sp1 ma1 mb1 mc1 (0 : UInt64) (0 : UInt64) zw1 ob2 pb2 w2 so2 sp2 oa2 pa2 ma2 mb2 mc2 pw2 wr2 T3.heap n0 Zs3 f4 g_b1 f5 f6 f7 f8 f9 f10 f11 f12 f13 f14 nn21_2_120 nn5_120 hq5_120 nn21_12_120 nn15_120 hq15_120 nn34_120 hq34_120 nn45_120 nn46_120 hq46_120 nn59_120 nn60_120 hq60_120 nn21_66_120 nn69_120 hq69_120 nn21_76_120 nn79_120 hq79_120 nn90_120 nn93_120 nn94_120 hq94_120 nn106_120 nn109_120 nn110_120 hq110_120 nn122_120 nn125_120 nn126_120 hq126_120 hc134_120 nn143_120 hq143_120 nn157_120 nn158_120 nn159_120 hq159_120) hZ (hw _ (List.mem_of_getElem? (i := 21) rfl)) (hw _ (List.mem_of_getElem? (i := 2) rfl)) (by decide) (by decide)) q16a q16c (g := (mkF m 120 #[.val (.int p0), .val (.int p1), .val (.int p2), .val (.int p3), .val (.int p4), .val (.int p5), .val (.long wa), .second, .val (.long wb), .second, .val (.int (1 : Int32)), .val (.int (1 : Int32)), .val (.long ra), .second, .val (.long rb), .second, .val (.ref b1), .unset, .unset, .unset, .unset, .unset, .unset] [(.long (p1.toInt64)), (.double (FP.l2d xb)), (.double (FP.l2d wb)), (.ref b1)])) rfl (by rw [hml]; rfl) (Steps.refl _) (argsL := [(.double (FP.l2d wb)), (.double (FP.l2d xb)), (.long (p1.toInt64))]) (rest := []) (lenOf pd_2 rfl) rfl (by show 2 * 0 + _ ≤ _; exact Nat.le_of_eq rfl) (hb hby at_120) (fun _ _ => ⟨rfl, rfl, (by decide : 1 + 0 ≤ _), (by decide : 10 + 0 ≤ _)⟩)
  dsimp only [Pt.U, Pt.locs, Pt.cells, Pt.slots] at X16 l16 y16 z16 st16 hQ16
  subst l16 y16 z16
  obtain ⟨rfl, N16q, K16q, f17, f18, f19, f20, f21, f22, f23, f24, f25, f26, f27⟩ := hQ16
  have N16 := Fr.app N3 N16q
  have f28 := f4.keep K16q
  have K16 : Keep h0 T16.heap [] := K3.trans K16q (own_allS (Or.inr sz_b1) own_all0)
  have Zs16 := Nat.le_trans Zs3 K16q.1
  obtain ⟨cq29, kq29, q29a, q29b, q29c⟩ := isOf hZ rfl f17
  obtain ⟨_, _, ⟨T29, L29, k29, n29⟩, -, X29, ⟨Lc29, hQ29, l29, y29, z29⟩, st29⟩ := X16.virtualBack hx (y := (⟨"com/example/arrivals/arrivals/core/SequenceStatistics", "expectedRatio", "()D"⟩ : MethodName)) (z := (⟨"com/example/arrivals/arrivals/core/SequenceStatistics", "expectedRatio", "()D"⟩ : MethodName)) hown (mvT hZ (hw _ (List.mem_of_getElem? (i := 9) rfl))) (mvT hZ (hw _ (List.mem_of_getElem? (i := 10) rfl))) (notFace_of_selects (args := #[]) (mvT hZ (hw _ (List.mem_of_getElem? (i := 12) rfl)))) (mvT hZ (hw _ (List.mem_of_getElem? (i := 12) rfl))) (mvT hZ (hw _ (List.mem_of_getElem? (i := 11) rfl))) (by decide) (backOf (W := 0) (rm3n l Z a0 hw [] b1 pw2 wr2 T16.heap n0 Zs16 f25 f26 hd5_183 nn23_183) hZ (hw _ (List.mem_of_getElem? (i := 13) rfl)) (hw _ (List.mem_of_getElem? (i := 2) rfl)) (by decide) (by decide)) q29a q29c (g := (mkF m 183 #[.val (.int p0), .val (.int p1), .val (.int p2), .val (.int p3), .val (.int p4), .val (.int p5), .val (.long wa), .second, .val (.long wb), .second, .val (.int (1 : Int32)), .val (.int (1 : Int32)), .val (.long ra), .second, .val (.long rb), .second, .val (.ref b1), .val (.long pB), .second, .val (.long nB), .second, .unset, .unset] [(.ref b1)])) rfl (by rw [hml]; rfl) (Steps.refl _) (argsL := []) (rest := []) (lenOf pd_0 rfl) rfl (by show 2 * 0 + _ ≤ _; exact Nat.le_of_eq rfl) (hb hby at_183) (fun _ _ => ⟨rfl, rfl, (by decide : 1 + 0 ≤ _), (by decide : 10 + 0 ≤ _)⟩)
  dsimp only [Pt.U, Pt.locs, Pt.cells, Pt.slots] at X29 l29 y29 z29 st29 hQ29
  subst l29 y29 z29
  obtain ⟨rfl, N29q, eh29⟩ := hQ29
  have N29 := Fr.app N16 N29q
  have e29 : T29.heap = T16.heap := eh29
  obtain ⟨fs, hr, hrun, hended, hW, hsame⟩ := X29.leave (v := some (.int (1 : Int32))) (fun h => by rw [Bd.returns] at h; cases h)
  refine ⟨_, _, pre0 _ ?_, hrun, hended, _, _, rfl, ?_, ⟨_, rfl⟩, hW, hsame.mono (by decide) (by decide)⟩
  · show Steps p.tables e below (s₁.setTop (mkF m 0 #[.val (.int p0), .val (.int p1), .val (.int p2), .val (.int p3), .val (.int p4), .val (.int p5), .unset, .unset, .unset, .unset, .unset, .unset, .unset, .unset, .unset, .unset, .unset, .unset, .unset, .unset, .unset, .unset, .unset] [])) _
    refine XS.iload X0.here hx rfl (hb hby at_0) rfl ?_
    refine XS.sipush X0.here hx rfl (hb hby at_2) ?_
    refine XS.iand X0.here hx rfl (hb hby at_5) rfl ?_
    refine XS.iconst X0.here hx rfl (hb hby at_6) ?_
    refine XS.iadd X0.here hx rfl (hb hby at_7) rfl ?_
    show Steps p.tables e below (s₁.setTop (mkF m 8 #[.val (.int p0), .val (.int p1), .val (.int p2), .val (.int p3), .val (.int p4), .val (.int p5), .unset, .unset, .unset, .unset, .unset, .unset, .unset, .unset, .unset, .unset, .unset, .unset, .unset, .unset, .unset, .unset, .unset] [(.int ((p4 &&& (1023 : Int32)) + (1 : Int32)))])) _
    refine XS.i2l X0.here hx rfl (hb hby at_8) rfl ?_
    show Steps p.tables e below (s₁.setTop (mkF m 9 #[.val (.int p0), .val (.int p1), .val (.int p2), .val (.int p3), .val (.int p4), .val (.int p5), .unset, .unset, .unset, .unset, .unset, .unset, .unset, .unset, .unset, .unset, .unset, .unset, .unset, .unset, .unset, .unset, .unset] [(.long (((p4 &&& (1023 : Int32)) + (1 : Int32)).toInt64))])) _
    rw [hv8]
    show Steps p.tables e below (s₁.setTop (mkF m 9 #[.val (.int p0), .val (.int p1), .val (.int p2), .val (.int p3), .val (.int p4), .val (.int p5), .unset, .unset, .unset, .unset, .unset, .unset, .unset, .unset, .unset, .unset, .unset, .unset, .unset, .unset, .unset, .unset, .unset] [(.long wa)])) _
    refine XS.lstore X0.here hx rfl (hb hby at_9) rfl (l' := #[.val (.int p0), .val (.int p1), .val (.int p2), .val (.int p3), .val (.int p4), .val (.int p5), .val (.long wa), .second, .unset, .unset, .unset, .unset, .unset, .unset, .unset, .unset, .unset, .unset, .unset, .unset, .unset, .unset, .unset]) rfl ?_
    refine XS.iload X0.here hx rfl (hb hby at_11) rfl ?_
    refine XS.sipush X0.here hx rfl (hb hby at_13) ?_
    refine XS.iand X0.here hx rfl (hb hby at_16) rfl ?_
    show Steps p.tables e below (s₁.setTop (mkF m 17 #[.val (.int p0), .val (.int p1), .val (.int p2), .val (.int p3), .val (.int p4), .val (.int p5), .val (.long wa), .second, .unset, .unset, .unset, .unset, .unset, .unset, .unset, .unset, .unset, .unset, .unset, .unset, .unset, .unset, .unset] [(.int (p5 &&& (1023 : Int32)))])) _
    refine XS.iconst X0.here hx rfl (hb hby at_17) ?_
    refine XS.iadd X0.here hx rfl (hb hby at_18) rfl ?_
    refine XS.i2l X0.here hx rfl (hb hby at_19) rfl ?_
    show Steps p.tables e below (s₁.setTop (mkF m 20 #[.val (.int p0), .val (.int p1), .val (.int p2), .val (.int p3), .val (.int p4), .val (.int p5), .val (.long wa), .second, .unset, .unset, .unset, .unset, .unset, .unset, .unset, .unset, .unset, .unset, .unset, .unset, .unset, .unset, .unset] [(.long (((p5 &&& (1023 : Int32)) + (1 : Int32)).toInt64))])) _
    rw [hv19]
    show Steps p.tables e below (s₁.setTop (mkF m 20 #[.val (.int p0), .val (.int p1), .val (.int p2), .val (.int p3), .val (.int p4), .val (.int p5), .val (.long wa), .second, .unset, .unset, .unset, .unset, .unset, .unset, .unset, .unset, .unset, .unset, .unset, .unset, .unset, .unset, .unset] [(.long wb)])) _
    refine XS.lstore X0.here hx rfl (hb hby at_20) rfl (l' := #[.val (.int p0), .val (.int p1), .val (.int p2), .val (.int p3), .val (.int p4), .val (.int p5), .val (.long wa), .second, .val (.long wb), .second, .unset, .unset, .unset, .unset, .unset, .unset, .unset, .unset, .unset, .unset, .unset, .unset, .unset]) rfl ?_
    refine XS.iload X0.here hx rfl (hb hby at_22) rfl ?_
    show Steps p.tables e below (s₁.setTop (mkF m 24 #[.val (.int p0), .val (.int p1), .val (.int p2), .val (.int p3), .val (.int p4), .val (.int p5), .val (.long wa), .second, .val (.long wb), .second, .unset, .unset, .unset, .unset, .unset, .unset, .unset, .unset, .unset, .unset, .unset, .unset, .unset] [(.int p4)])) _
    refine XS.bipush X0.here hx rfl (hb hby at_24) ?_
    refine XS.iushr X0.here hx rfl (hb hby at_26) rfl ?_
    refine XS.iconst X0.here hx rfl (hb hby at_27) ?_
    refine XS.iand X0.here hx rfl (hb hby at_28) rfl ?_
    refine XS.ifNo X0.here hx rfl (hb hby at_29) rfl ((if0 _ _).trans (feq hc29).1) ?_
    refine XS.iconst X0.here hx rfl (hb hby at_32) ?_
    show Steps p.tables e below (s₁.setTop (mkF m 33 #[.val (.int p0), .val (.int p1), .val (.int p2), .val (.int p3), .val (.int p4), .val (.int p5), .val (.long wa), .second, .val (.long wb), .second, .unset, .unset, .unset, .unset, .unset, .unset, .unset, .unset, .unset, .unset, .unset, .unset, .unset] [(.int (1 : Int32))])) _
    refine XS.goto X0.here hx rfl (pc0 := 33) (pc' := 37) rfl (hb hby at_33) (by decide) (by decide) ?_
    refine XS.istore X0.here hx rfl (hb hby at_37) rfl (l' := #[.val (.int p0), .val (.int p1), .val (.int p2), .val (.int p3), .val (.int p4), .val (.int p5), .val (.long wa), .second, .val (.long wb), .second, .val (.int (1 : Int32)), .unset, .unset, .unset, .unset, .unset, .unset, .unset, .unset, .unset, .unset, .unset, .unset]) rfl ?_
    refine XS.iload X0.here hx rfl (hb hby at_39) rfl ?_
    refine XS.bipush X0.here hx rfl (hb hby at_41) ?_
    refine XS.iushr X0.here hx rfl (hb hby at_43) rfl ?_
    refine XS.iconst X0.here hx rfl (hb hby at_44) ?_
    show Steps p.tables e below (s₁.setTop (mkF m 45 #[.val (.int p0), .val (.int p1), .val (.int p2), .val (.int p3), .val (.int p4), .val (.int p5), .val (.long wa), .second, .val (.long wb), .second, .val (.int (1 : Int32)), .unset, .unset, .unset, .unset, .unset, .unset, .unset, .unset, .unset, .unset, .unset, .unset] [(.int (3 : Int32)), (.int ((p5.toUInt32 >>> ((10 : Int32) &&& 31).toUInt32).toInt32))])) _
    refine XS.iand X0.here hx rfl (hb hby at_45) rfl ?_
    refine XS.ifNo X0.here hx rfl (hb hby at_46) rfl ((if0 _ _).trans (feq hc46).1) ?_
    refine XS.iconst X0.here hx rfl (hb hby at_49) ?_
    refine XS.goto X0.here hx rfl (pc0 := 50) (pc' := 54) rfl (hb hby at_50) (by decide) (by decide) ?_
    refine XS.istore X0.here hx rfl (hb hby at_54) rfl (l' := #[.val (.int p0), .val (.int p1), .val (.int p2), .val (.int p3), .val (.int p4), .val (.int p5), .val (.long wa), .second, .val (.long wb), .second, .val (.int (1 : Int32)), .val (.int (1 : Int32)), .unset, .unset, .unset, .unset, .unset, .unset, .unset, .unset, .unset, .unset, .unset]) rfl ?_
    refine XS.iloadN X0.here hx rfl (hb hby at_56) rfl ?_
    show Steps p.tables e below (s₁.setTop (mkF m 57 #[.val (.int p0), .val (.int p1), .val (.int p2), .val (.int p3), .val (.int p4), .val (.int p5), .val (.long wa), .second, .val (.long wb), .second, .val (.int (1 : Int32)), .val (.int (1 : Int32)), .unset, .unset, .unset, .unset, .unset, .unset, .unset, .unset, .unset, .unset, .unset] [(.int p2)])) _
    refine XS.sipush X0.here hx rfl (hb hby at_57) ?_
    refine iremM (g := (mkF m 60 #[.val (.int p0), .val (.int p1), .val (.int p2), .val (.int p3), .val (.int p4), .val (.int p5), .val (.long wa), .second, .val (.long wb), .second, .val (.int (1 : Int32)), .val (.int (1 : Int32)), .unset, .unset, .unset, .unset, .unset, .unset, .unset, .unset, .unset, .unset, .unset] [(.int (1024 : Int32)), (.int p2)])) X0 hx rfl (hb hby at_60) rfl (by decide) ?_
    show Steps p.tables e below (s₁.setTop (mkF m 61 #[.val (.int p0), .val (.int p1), .val (.int p2), .val (.int p3), .val (.int p4), .val (.int p5), .val (.long wa), .second, .val (.long wb), .second, .val (.int (1 : Int32)), .val (.int (1 : Int32)), .unset, .unset, .unset, .unset, .unset, .unset, .unset, .unset, .unset, .unset, .unset] [(.int (p2 % (1024 : Int32)))])) _
    refine XS.i2l X0.here hx rfl (hb hby at_61) rfl ?_
    show Steps p.tables e below (s₁.setTop (mkF m 62 #[.val (.int p0), .val (.int p1), .val (.int p2), .val (.int p3), .val (.int p4), .val (.int p5), .val (.long wa), .second, .val (.long wb), .second, .val (.int (1 : Int32)), .val (.int (1 : Int32)), .unset, .unset, .unset, .unset, .unset, .unset, .unset, .unset, .unset, .unset, .unset] [(.long ((p2 % (1024 : Int32)).toInt64))])) _
    rw [hv61]
    show Steps p.tables e below (s₁.setTop (mkF m 62 #[.val (.int p0), .val (.int p1), .val (.int p2), .val (.int p3), .val (.int p4), .val (.int p5), .val (.long wa), .second, .val (.long wb), .second, .val (.int (1 : Int32)), .val (.int (1 : Int32)), .unset, .unset, .unset, .unset, .unset, .unset, .unset, .unset, .unset, .unset, .unset] [(.long ra)])) _
    refine XS.lstore X0.here hx rfl (hb hby at_62) rfl (l' := #[.val (.int p0), .val (.int p1), .val (.int p2), .val (.int p3), .val (.int p4), .val (.int p5), .val (.long wa), .second, .val (.long wb), .second, .val (.int (1 : Int32)), .val (.int (1 : Int32)), .val (.long ra), .second, .unset, .unset, .unset, .unset, .unset, .unset, .unset, .unset, .unset]) rfl ?_
    refine XS.iloadN X0.here hx rfl (hb hby at_64) rfl ?_
    show Steps p.tables e below (s₁.setTop (mkF m 65 #[.val (.int p0), .val (.int p1), .val (.int p2), .val (.int p3), .val (.int p4), .val (.int p5), .val (.long wa), .second, .val (.long wb), .second, .val (.int (1 : Int32)), .val (.int (1 : Int32)), .val (.long ra), .second, .unset, .unset, .unset, .unset, .unset, .unset, .unset, .unset, .unset] [(.int p3)])) _
    refine XS.sipush X0.here hx rfl (hb hby at_65) ?_
    refine iremM (g := (mkF m 68 #[.val (.int p0), .val (.int p1), .val (.int p2), .val (.int p3), .val (.int p4), .val (.int p5), .val (.long wa), .second, .val (.long wb), .second, .val (.int (1 : Int32)), .val (.int (1 : Int32)), .val (.long ra), .second, .unset, .unset, .unset, .unset, .unset, .unset, .unset, .unset, .unset] [(.int (1024 : Int32)), (.int p3)])) X0 hx rfl (hb hby at_68) rfl (by decide) ?_
    show Steps p.tables e below (s₁.setTop (mkF m 69 #[.val (.int p0), .val (.int p1), .val (.int p2), .val (.int p3), .val (.int p4), .val (.int p5), .val (.long wa), .second, .val (.long wb), .second, .val (.int (1 : Int32)), .val (.int (1 : Int32)), .val (.long ra), .second, .unset, .unset, .unset, .unset, .unset, .unset, .unset, .unset, .unset] [(.int (p3 % (1024 : Int32)))])) _
    refine XS.i2l X0.here hx rfl (hb hby at_69) rfl ?_
    show Steps p.tables e below (s₁.setTop (mkF m 70 #[.val (.int p0), .val (.int p1), .val (.int p2), .val (.int p3), .val (.int p4), .val (.int p5), .val (.long wa), .second, .val (.long wb), .second, .val (.int (1 : Int32)), .val (.int (1 : Int32)), .val (.long ra), .second, .unset, .unset, .unset, .unset, .unset, .unset, .unset, .unset, .unset] [(.long ((p3 % (1024 : Int32)).toInt64))])) _
    rw [hv69]
    show Steps p.tables e below (s₁.setTop (mkF m 70 #[.val (.int p0), .val (.int p1), .val (.int p2), .val (.int p3), .val (.int p4), .val (.int p5), .val (.long wa), .second, .val (.long wb), .second, .val (.int (1 : Int32)), .val (.int (1 : Int32)), .val (.long ra), .second, .unset, .unset, .unset, .unset, .unset, .unset, .unset, .unset, .unset] [(.long rb)])) _
    refine XS.lstore X0.here hx rfl (hb hby at_70) rfl (l' := #[.val (.int p0), .val (.int p1), .val (.int p2), .val (.int p3), .val (.int p4), .val (.int p5), .val (.long wa), .second, .val (.long wb), .second, .val (.int (1 : Int32)), .val (.int (1 : Int32)), .val (.long ra), .second, .val (.long rb), .second, .unset, .unset, .unset, .unset, .unset, .unset, .unset]) rfl ?_
    refine st1 _ ?_
    show Steps p.tables e below (T1.setTop (mkF m 75 #[.val (.int p0), .val (.int p1), .val (.int p2), .val (.int p3), .val (.int p4), .val (.int p5), .val (.long wa), .second, .val (.long wb), .second, .val (.int (1 : Int32)), .val (.int (1 : Int32)), .val (.long ra), .second, .val (.long rb), .second, .unset, .unset, .unset, .unset, .unset, .unset, .unset] [(.ref b1)])) _
    refine XS.dup X1.here hx rfl (hb hby at_75) rfl rfl ?_
    refine st2.trans ?_
    show Steps p.tables e below (T2.setTop (mkF m 79 #[.val (.int p0), .val (.int p1), .val (.int p2), .val (.int p3), .val (.int p4), .val (.int p5), .val (.long wa), .second, .val (.long wb), .second, .val (.int (1 : Int32)), .val (.int (1 : Int32)), .val (.long ra), .second, .val (.long rb), .second, .unset, .unset, .unset, .unset, .unset, .unset, .unset] [(.ref b1)])) _
    refine XS.astore X2.here hx rfl (hb hby at_79) rfl rfl (l' := #[.val (.int p0), .val (.int p1), .val (.int p2), .val (.int p3), .val (.int p4), .val (.int p5), .val (.long wa), .second, .val (.long wb), .second, .val (.int (1 : Int32)), .val (.int (1 : Int32)), .val (.long ra), .second, .val (.long rb), .second, .val (.ref b1), .unset, .unset, .unset, .unset, .unset, .unset]) rfl ?_
    refine XS.iload X2.here hx rfl (hb hby at_81) rfl ?_
    refine XS.ifNo X2.here hx rfl (hb hby at_83) rfl ((if0 _ _).trans (feq (by decide : ¬ ((1 : Int32) = (0 : Int32)))).1) ?_
    refine XS.aload X2.here hx rfl (hb hby at_86) rfl rfl ?_
    show Steps p.tables e below (T2.setTop (mkF m 88 #[.val (.int p0), .val (.int p1), .val (.int p2), .val (.int p3), .val (.int p4), .val (.int p5), .val (.long wa), .second, .val (.long wb), .second, .val (.int (1 : Int32)), .val (.int (1 : Int32)), .val (.long ra), .second, .val (.long rb), .second, .val (.ref b1), .unset, .unset, .unset, .unset, .unset, .unset] [(.ref b1)])) _
    refine XS.lload X2.here hx rfl (hb hby at_88) rfl ?_
    refine XS.l2dS X2.here hx rfl (hb hby at_90) rfl (v := (FP.l2d wa)) rfl ?_
    refine XS.lload X2.here hx rfl (hb hby at_91) rfl ?_
    refine XS.iloadN X2.here hx rfl (hb hby at_93) rfl ?_
    refine XS.i2l X2.here hx rfl (hb hby at_94) rfl ?_
    refine XS.lmul X2.here hx rfl (hb hby at_95) rfl ?_
    show Steps p.tables e below (T2.setTop (mkF m 96 #[.val (.int p0), .val (.int p1), .val (.int p2), .val (.int p3), .val (.int p4), .val (.int p5), .val (.long wa), .second, .val (.long wb), .second, .val (.int (1 : Int32)), .val (.int (1 : Int32)), .val (.long ra), .second, .val (.long rb), .second, .val (.ref b1), .unset, .unset, .unset, .unset, .unset, .unset] [(.long (ra * (p0.toInt64))), (.double (FP.l2d wa)), (.ref b1)])) _
    rw [hv95]
    show Steps p.tables e below (T2.setTop (mkF m 96 #[.val (.int p0), .val (.int p1), .val (.int p2), .val (.int p3), .val (.int p4), .val (.int p5), .val (.long wa), .second, .val (.long wb), .second, .val (.int (1 : Int32)), .val (.int (1 : Int32)), .val (.long ra), .second, .val (.long rb), .second, .val (.ref b1), .unset, .unset, .unset, .unset, .unset, .unset] [(.long xa), (.double (FP.l2d wa)), (.ref b1)])) _
    refine XS.l2dS X2.here hx rfl (hb hby at_96) rfl (v := (FP.l2d xa)) rfl ?_
    refine XS.iloadN X2.here hx rfl (hb hby at_97) rfl ?_
    refine XS.i2l X2.here hx rfl (hb hby at_98) rfl ?_
    refine st3.trans ?_
    show Steps p.tables e below (T3.setTop (mkF m 102 #[.val (.int p0), .val (.int p1), .val (.int p2), .val (.int p3), .val (.int p4), .val (.int p5), .val (.long wa), .second, .val (.long wb), .second, .val (.int (1 : Int32)), .val (.int (1 : Int32)), .val (.long ra), .second, .val (.long rb), .second, .val (.ref b1), .unset, .unset, .unset, .unset, .unset, .unset] [])) _
    refine XS.iload X3.here hx rfl (hb hby at_102) rfl ?_
    show Steps p.tables e below (T3.setTop (mkF m 104 #[.val (.int p0), .val (.int p1), .val (.int p2), .val (.int p3), .val (.int p4), .val (.int p5), .val (.long wa), .second, .val (.long wb), .second, .val (.int (1 : Int32)), .val (.int (1 : Int32)), .val (.long ra), .second, .val (.long rb), .second, .val (.ref b1), .unset, .unset, .unset, .unset, .unset, .unset] [(.int (1 : Int32))])) _
    refine XS.ifNo X3.here hx rfl (hb hby at_104) rfl ((if0 _ _).trans (feq (by decide : ¬ ((1 : Int32) = (0 : Int32)))).1) ?_
    refine XS.aload X3.here hx rfl (hb hby at_107) rfl rfl ?_
    refine XS.lload X3.here hx rfl (hb hby at_109) rfl ?_
    refine XS.l2dS X3.here hx rfl (hb hby at_111) rfl (v := (FP.l2d wb)) rfl ?_
    refine XS.lload X3.here hx rfl (hb hby at_112) rfl ?_
    refine XS.iloadN X3.here hx rfl (hb hby at_114) rfl ?_
    show Steps p.tables e below (T3.setTop (mkF m 115 #[.val (.int p0), .val (.int p1), .val (.int p2), .val (.int p3), .val (.int p4), .val (.int p5), .val (.long wa), .second, .val (.long wb), .second, .val (.int (1 : Int32)), .val (.int (1 : Int32)), .val (.long ra), .second, .val (.long rb), .second, .val (.ref b1), .unset, .unset, .unset, .unset, .unset, .unset] [(.int p1), (.long rb), (.double (FP.l2d wb)), (.ref b1)])) _
    refine XS.i2l X3.here hx rfl (hb hby at_115) rfl ?_
    refine XS.lmul X3.here hx rfl (hb hby at_116) rfl ?_
    show Steps p.tables e below (T3.setTop (mkF m 117 #[.val (.int p0), .val (.int p1), .val (.int p2), .val (.int p3), .val (.int p4), .val (.int p5), .val (.long wa), .second, .val (.long wb), .second, .val (.int (1 : Int32)), .val (.int (1 : Int32)), .val (.long ra), .second, .val (.long rb), .second, .val (.ref b1), .unset, .unset, .unset, .unset, .unset, .unset] [(.long (rb * (p1.toInt64))), (.double (FP.l2d wb)), (.ref b1)])) _
    rw [hv116]
    show Steps p.tables e below (T3.setTop (mkF m 117 #[.val (.int p0), .val (.int p1), .val (.int p2), .val (.int p3), .val (.int p4), .val (.int p5), .val (.long wa), .second, .val (.long wb), .second, .val (.int (1 : Int32)), .val (.int (1 : Int32)), .val (.long ra), .second, .val (.long rb), .second, .val (.ref b1), .unset, .unset, .unset, .unset, .unset, .unset] [(.long xb), (.double (FP.l2d wb)), (.ref b1)])) _
    refine XS.l2dS X3.here hx rfl (hb hby at_117) rfl (v := (FP.l2d xb)) rfl ?_
    refine XS.iloadN X3.here hx rfl (hb hby at_118) rfl ?_
    refine XS.i2l X3.here hx rfl (hb hby at_119) rfl ?_
    show Steps p.tables e below (T3.setTop (mkF m 120 #[.val (.int p0), .val (.int p1), .val (.int p2), .val (.int p3), .val (.int p4), .val (.int p5), .val (.long wa), .second, .val (.long wb), .second, .val (.int (1 : Int32)), .val (.int (1 : Int32)), .val (.long ra), .second, .val (.long rb), .second, .val (.ref b1), .unset, .unset, .unset, .unset, .unset, .unset] [(.long (p1.toInt64)), (.double (FP.l2d xb)), (.double (FP.l2d wb)), (.ref b1)])) _
    refine st16.trans ?_
    show Steps p.tables e below (T16.setTop (mkF m 123 #[.val (.int p0), .val (.int p1), .val (.int p2), .val (.int p3), .val (.int p4), .val (.int p5), .val (.long wa), .second, .val (.long wb), .second, .val (.int (1 : Int32)), .val (.int (1 : Int32)), .val (.long ra), .second, .val (.long rb), .second, .val (.ref b1), .unset, .unset, .unset, .unset, .unset, .unset] [])) _
    refine XS.lconst X16.here hx rfl (hb hby at_123) ?_
    refine XS.lstore X16.here hx rfl (hb hby at_124) rfl (l' := #[.val (.int p0), .val (.int p1), .val (.int p2), .val (.int p3), .val (.int p4), .val (.int p5), .val (.long wa), .second, .val (.long wb), .second, .val (.int (1 : Int32)), .val (.int (1 : Int32)), .val (.long ra), .second, .val (.long rb), .second, .val (.ref b1), .val (.long (0 : Int64)), .second, .unset, .unset, .unset, .unset]) rfl ?_
    refine XS.lconst X16.here hx rfl (hb hby at_126) ?_
    refine XS.lstore X16.here hx rfl (hb hby at_127) rfl (l' := #[.val (.int p0), .val (.int p1), .val (.int p2), .val (.int p3), .val (.int p4), .val (.int p5), .val (.long wa), .second, .val (.long wb), .second, .val (.int (1 : Int32)), .val (.int (1 : Int32)), .val (.long ra), .second, .val (.long rb), .second, .val (.ref b1), .val (.long (0 : Int64)), .second, .val (.long (0 : Int64)), .second, .unset, .unset]) rfl ?_
    refine XS.iload X16.here hx rfl (hb hby at_129) rfl ?_
    show Steps p.tables e below (T16.setTop (mkF m 131 #[.val (.int p0), .val (.int p1), .val (.int p2), .val (.int p3), .val (.int p4), .val (.int p5), .val (.long wa), .second, .val (.long wb), .second, .val (.int (1 : Int32)), .val (.int (1 : Int32)), .val (.long ra), .second, .val (.long rb), .second, .val (.ref b1), .val (.long (0 : Int64)), .second, .val (.long (0 : Int64)), .second, .unset, .unset] [(.int (1 : Int32))])) _
    refine XS.ifNo X16.here hx rfl (hb hby at_131) rfl ((if0 _ _).trans (feq (by decide : ¬ ((1 : Int32) = (0 : Int32)))).1) ?_
    refine XS.iloadN X16.here hx rfl (hb hby at_134) rfl ?_
    refine XS.ifYes X16.here hx rfl (pc0 := 135) (pc' := 155) rfl (hb hby at_135) rfl ((if0 _ _).trans (flt hc135).2.2.2) (by decide) (by decide) ?_
    refine XS.iload X16.here hx rfl (hb hby at_155) rfl ?_
    refine XS.ifNo X16.here hx rfl (hb hby at_157) rfl ((if0 _ _).trans (feq (by decide : ¬ ((1 : Int32) = (0 : Int32)))).1) ?_
    refine XS.iloadN X16.here hx rfl (hb hby at_160) rfl ?_
    show Steps p.tables e below (T16.setTop (mkF m 161 #[.val (.int p0), .val (.int p1), .val (.int p2), .val (.int p3), .val (.int p4), .val (.int p5), .val (.long wa), .second, .val (.long wb), .second, .val (.int (1 : Int32)), .val (.int (1 : Int32)), .val (.long ra), .second, .val (.long rb), .second, .val (.ref b1), .val (.long (0 : Int64)), .second, .val (.long (0 : Int64)), .second, .unset, .unset] [(.int p1)])) _
    refine XS.ifNo X16.here hx rfl (hb hby at_161) rfl ((if0 _ _).trans (tlt hc161).2.2.2) ?_
    refine XS.lload X16.here hx rfl (hb hby at_164) rfl ?_
    refine XS.lload X16.here hx rfl (hb hby at_166) rfl ?_
    refine XS.ladd X16.here hx rfl (hb hby at_168) rfl ?_
    show Steps p.tables e below (T16.setTop (mkF m 169 #[.val (.int p0), .val (.int p1), .val (.int p2), .val (.int p3), .val (.int p4), .val (.int p5), .val (.long wa), .second, .val (.long wb), .second, .val (.int (1 : Int32)), .val (.int (1 : Int32)), .val (.long ra), .second, .val (.long rb), .second, .val (.ref b1), .val (.long (0 : Int64)), .second, .val (.long (0 : Int64)), .second, .unset, .unset] [(.long ((0 : Int64) + wb))])) _
    rw [hv168]
    show Steps p.tables e below (T16.setTop (mkF m 169 #[.val (.int p0), .val (.int p1), .val (.int p2), .val (.int p3), .val (.int p4), .val (.int p5), .val (.long wa), .second, .val (.long wb), .second, .val (.int (1 : Int32)), .val (.int (1 : Int32)), .val (.long ra), .second, .val (.long rb), .second, .val (.ref b1), .val (.long (0 : Int64)), .second, .val (.long (0 : Int64)), .second, .unset, .unset] [(.long pB)])) _
    refine XS.lstore X16.here hx rfl (hb hby at_169) rfl (l' := #[.val (.int p0), .val (.int p1), .val (.int p2), .val (.int p3), .val (.int p4), .val (.int p5), .val (.long wa), .second, .val (.long wb), .second, .val (.int (1 : Int32)), .val (.int (1 : Int32)), .val (.long ra), .second, .val (.long rb), .second, .val (.ref b1), .val (.long pB), .second, .val (.long (0 : Int64)), .second, .unset, .unset]) rfl ?_
    show Steps p.tables e below (T16.setTop (mkF m 171 #[.val (.int p0), .val (.int p1), .val (.int p2), .val (.int p3), .val (.int p4), .val (.int p5), .val (.long wa), .second, .val (.long wb), .second, .val (.int (1 : Int32)), .val (.int (1 : Int32)), .val (.long ra), .second, .val (.long rb), .second, .val (.ref b1), .val (.long pB), .second, .val (.long (0 : Int64)), .second, .unset, .unset] [])) _
    refine XS.lload X16.here hx rfl (hb hby at_171) rfl ?_
    refine XS.lload X16.here hx rfl (hb hby at_173) rfl ?_
    refine XS.lload X16.here hx rfl (hb hby at_175) rfl ?_
    refine XS.lmul X16.here hx rfl (hb hby at_177) rfl ?_
    refine XS.ladd X16.here hx rfl (hb hby at_178) rfl ?_
    show Steps p.tables e below (T16.setTop (mkF m 179 #[.val (.int p0), .val (.int p1), .val (.int p2), .val (.int p3), .val (.int p4), .val (.int p5), .val (.long wa), .second, .val (.long wb), .second, .val (.int (1 : Int32)), .val (.int (1 : Int32)), .val (.long ra), .second, .val (.long rb), .second, .val (.ref b1), .val (.long pB), .second, .val (.long (0 : Int64)), .second, .unset, .unset] [(.long ((0 : Int64) + (wb * rb)))])) _
    rw [hv178]
    show Steps p.tables e below (T16.setTop (mkF m 179 #[.val (.int p0), .val (.int p1), .val (.int p2), .val (.int p3), .val (.int p4), .val (.int p5), .val (.long wa), .second, .val (.long wb), .second, .val (.int (1 : Int32)), .val (.int (1 : Int32)), .val (.long ra), .second, .val (.long rb), .second, .val (.ref b1), .val (.long pB), .second, .val (.long (0 : Int64)), .second, .unset, .unset] [(.long nB)])) _
    refine XS.lstore X16.here hx rfl (hb hby at_179) rfl (l' := #[.val (.int p0), .val (.int p1), .val (.int p2), .val (.int p3), .val (.int p4), .val (.int p5), .val (.long wa), .second, .val (.long wb), .second, .val (.int (1 : Int32)), .val (.int (1 : Int32)), .val (.long ra), .second, .val (.long rb), .second, .val (.ref b1), .val (.long pB), .second, .val (.long nB), .second, .unset, .unset]) rfl ?_
    refine XS.aload X16.here hx rfl (hb hby at_181) rfl rfl ?_
    refine st29.trans ?_
    show Steps p.tables e below (T29.setTop (mkF m 186 #[.val (.int p0), .val (.int p1), .val (.int p2), .val (.int p3), .val (.int p4), .val (.int p5), .val (.long wa), .second, .val (.long wb), .second, .val (.int (1 : Int32)), .val (.int (1 : Int32)), .val (.long ra), .second, .val (.long rb), .second, .val (.ref b1), .val (.long pB), .second, .val (.long nB), .second, .unset, .unset] [(.double (FP.ddiv wr2 pw2))])) _
    refine XS.dstore X29.here hx rfl (hb hby at_186) rfl (l' := #[.val (.int p0), .val (.int p1), .val (.int p2), .val (.int p3), .val (.int p4), .val (.int p5), .val (.long wa), .second, .val (.long wb), .second, .val (.int (1 : Int32)), .val (.int (1 : Int32)), .val (.long ra), .second, .val (.long rb), .second, .val (.ref b1), .val (.long pB), .second, .val (.long nB), .second, .val (.double (FP.ddiv wr2 pw2)), .second]) rfl ?_
    refine XS.lload X29.here hx rfl (hb hby at_188) rfl ?_
    refine XS.lconst X29.here hx rfl (hb hby at_190) ?_
    show Steps p.tables e below (T29.setTop (mkF m 191 #[.val (.int p0), .val (.int p1), .val (.int p2), .val (.int p3), .val (.int p4), .val (.int p5), .val (.long wa), .second, .val (.long wb), .second, .val (.int (1 : Int32)), .val (.int (1 : Int32)), .val (.long ra), .second, .val (.long rb), .second, .val (.ref b1), .val (.long pB), .second, .val (.long nB), .second, .val (.double (FP.ddiv wr2 pw2)), .second] [(.long (0 : Int64)), (.long pB)])) _
    refine XS.lcmp X29.here hx rfl (hb hby at_191) rfl ?_
    refine XS.ifYes X29.here hx rfl (pc0 := 192) (pc' := 209) rfl (hb hby at_192) rfl ((if0 _ _).trans (feq hc192).2) (by decide) (by decide) ?_
    refine XS.dload X29.here hx rfl (hb hby at_209) rfl ?_
    refine XS.lload X29.here hx rfl (hb hby at_211) rfl ?_
    refine XS.l2dS X29.here hx rfl (hb hby at_213) rfl (v := (FP.l2d nB)) rfl ?_
    refine XS.lload X29.here hx rfl (hb hby at_214) rfl ?_
    show Steps p.tables e below (T29.setTop (mkF m 216 #[.val (.int p0), .val (.int p1), .val (.int p2), .val (.int p3), .val (.int p4), .val (.int p5), .val (.long wa), .second, .val (.long wb), .second, .val (.int (1 : Int32)), .val (.int (1 : Int32)), .val (.long ra), .second, .val (.long rb), .second, .val (.ref b1), .val (.long pB), .second, .val (.long nB), .second, .val (.double (FP.ddiv wr2 pw2)), .second] [(.long pB), (.double (FP.l2d nB)), (.double (FP.ddiv wr2 pw2))])) _
    refine XS.l2dS X29.here hx rfl (hb hby at_216) rfl (v := (FP.l2d pB)) rfl ?_
    refine XS.ddivS X29.here hx rfl (hb hby at_217) rfl nn217 (v := (FP.ddiv (FP.l2d nB) (FP.l2d pB))) rfl ?_
    refine XS.dcmpS X29.here hx rfl (hb hby at_218) rfl (v := (0 : Int32)) hd218 ?_
    refine XS.ifNo X29.here hx rfl (hb hby at_219) rfl ((if0 _ _).trans (teq (by decide : (0 : Int32) = (0 : Int32))).2) ?_
    refine XS.iconst X29.here hx rfl (hb hby at_222) ?_
    refine XS.goto X29.here hx rfl (pc0 := 223) (pc' := 227) rfl (hb hby at_223) (by decide) (by decide) ?_
    show Steps p.tables e below (T29.setTop (mkF m 227 #[.val (.int p0), .val (.int p1), .val (.int p2), .val (.int p3), .val (.int p4), .val (.int p5), .val (.long wa), .second, .val (.long wb), .second, .val (.int (1 : Int32)), .val (.int (1 : Int32)), .val (.long ra), .second, .val (.long rb), .second, .val (.ref b1), .val (.long pB), .second, .val (.long nB), .second, .val (.double (FP.ddiv wr2 pw2)), .second] [(.int (1 : Int32))])) _
    exact retN X29 hx (t := .boolean) Bd.returns (by simp) (hb hby at_227) hr
  · show Q0 n0 _ T29.heap _
    rw [e29]
    exact ⟨rfl, N29⟩
set_option maxRecDepth 65536 in
set_option maxHeartbeats 40000000 in
theorem rm0_zz (l : Launch) (Z : State) (a0 : Array Value) (hw : ∀ d ∈ tables_1, d.before a0 Z = true) (ws : List Jvm.Cond) (p0 : Int32) (p1 : Int32) (p2 : Int32) (p3 : Int32) (p4 : Int32) (p5 : Int32) (ob1 : UInt64) (pb1 : UInt64) (w1 : UInt64) (so1 : UInt64) (sp1 : UInt64) (oa1 : UInt64) (pa1 : UInt64) (ma1 : UInt64) (mb1 : UInt64) (mc1 : UInt64) (zw1 : UInt64) (ob2 : UInt64) (pb2 : UInt64) (w2 : UInt64) (so2 : UInt64) (sp2 : UInt64) (oa2 : UInt64) (pa2 : UInt64) (ma2 : UInt64) (mb2 : UInt64) (mc2 : UInt64) (zw2 : UInt64) (wa : Int64) (wb : Int64) (ra : Int64) (rb : Int64) (xa : Int64) (xb : Int64) (h0 : Heap) (n0 : Nat) (Z0 : n0 ≤ h0.size) (hv8 : (((p4 &&& (1023 : Int32)) + (1 : Int32)).toInt64) = wa) (hv19 : (((p5 &&& (1023 : Int32)) + (1 : Int32)).toInt64) = wb) (hc29 : ¬ ((((p4.toUInt32 >>> ((10 : Int32) &&& 31).toUInt32).toInt32) &&& (3 : Int32)) = (0 : Int32))) (hc46 : ¬ ((((p5.toUInt32 >>> ((10 : Int32) &&& 31).toUInt32).toInt32) &&& (3 : Int32)) = (0 : Int32))) (hv61 : ((p2 % (1024 : Int32)).toInt64) = ra) (hv69 : ((p3 % (1024 : Int32)).toInt64) = rb) (hv95 : (ra * (p0.toInt64)) = xa) (nn5_99 : Jvm.Free.Fl.NoNaN64 (FP.dsub (FP.l2d xa) (0 : UInt64))) (hq5_99 : (FP.dsub (FP.l2d xa) (0 : UInt64)) = ob1) (nn15_99 : Jvm.Free.Fl.NoNaN64 (FP.dsub (FP.l2d (p0.toInt64)) (0 : UInt64))) (hq15_99 : (FP.dsub (FP.l2d (p0.toInt64)) (0 : UInt64)) = pb1) (nn34_99 : Jvm.Free.Fl.NoNaN64 (FP.dadd (0 : UInt64) (FP.l2d wa))) (hq34_99 : (FP.dadd (0 : UInt64) (FP.l2d wa)) = w1) (nn45_99 : Jvm.Free.Fl.NoNaN64 (FP.dmul (FP.l2d wa) (FP.l2d xa))) (nn46_99 : Jvm.Free.Fl.NoNaN64 (FP.dadd (0 : UInt64) (FP.dmul (FP.l2d wa) (FP.l2d xa)))) (hq46_99 : (FP.dadd (0 : UInt64) (FP.dmul (FP.l2d wa) (FP.l2d xa))) = so1) (nn59_99 : Jvm.Free.Fl.NoNaN64 (FP.dmul (FP.l2d wa) (FP.l2d (p0.toInt64)))) (nn60_99 : Jvm.Free.Fl.NoNaN64 (FP.dadd (0 : UInt64) (FP.dmul (FP.l2d wa) (FP.l2d (p0.toInt64))))) (hq60_99 : (FP.dadd (0 : UInt64) (FP.dmul (FP.l2d wa) (FP.l2d (p0.toInt64)))) = sp1) (nn21_66_99 : Jvm.Free.Fl.NoNaN64 (FP.ddiv so1 w1)) (nn69_99 : Jvm.Free.Fl.NoNaN64 (FP.dsub (FP.l2d xa) (FP.ddiv so1 w1))) (hq69_99 : (FP.dsub (FP.l2d xa) (FP.ddiv so1 w1)) = oa1) (nn21_76_99 : Jvm.Free.Fl.NoNaN64 (FP.ddiv sp1 w1)) (nn79_99 : Jvm.Free.Fl.NoNaN64 (FP.dsub (FP.l2d (p0.toInt64)) (FP.ddiv sp1 w1))) (hq79_99 : (FP.dsub (FP.l2d (p0.toInt64)) (FP.ddiv sp1 w1)) = pa1) (nn90_99 : Jvm.Free.Fl.NoNaN64 (FP.dmul (FP.l2d wa) ob1)) (nn93_99 : Jvm.Free.Fl.NoNaN64 (FP.dmul (FP.dmul (FP.l2d wa) ob1) oa1)) (nn94_99 : Jvm.Free.Fl.NoNaN64 (FP.dadd (0 : UInt64) (FP.dmul (FP.dmul (FP.l2d wa) ob1) oa1))) (hq94_99 : (FP.dadd (0 : UInt64) (FP.dmul (FP.dmul (FP.l2d wa) ob1) oa1)) = ma1) (nn106_99 : Jvm.Free.Fl.NoNaN64 (FP.dmul (FP.l2d wa) pb1)) (nn109_99 : Jvm.Free.Fl.NoNaN64 (FP.dmul (FP.dmul (FP.l2d wa) pb1) pa1)) (nn110_99 : Jvm.Free.Fl.NoNaN64 (FP.dadd (0 : UInt64) (FP.dmul (FP.dmul (FP.l2d wa) pb1) pa1))) (hq110_99 : (FP.dadd (0 : UInt64) (FP.dmul (FP.dmul (FP.l2d wa) pb1) pa1)) = mb1) (nn122_99 : Jvm.Free.Fl.NoNaN64 (FP.dmul (FP.l2d wa) ob1)) (nn125_99 : Jvm.Free.Fl.NoNaN64 (FP.dmul (FP.dmul (FP.l2d wa) ob1) pa1)) (nn126_99 : Jvm.Free.Fl.NoNaN64 (FP.dadd (0 : UInt64) (FP.dmul (FP.dmul (FP.l2d wa) ob1) pa1))) (hq126_99 : (FP.dadd (0 : UInt64) (FP.dmul (FP.dmul (FP.l2d wa) ob1) pa1)) = mc1) (hc134_99 : ¬ ((0 : Int32) < (lcmpW (p0.toInt64) (0 : Int64)))) (nn172_99 : Jvm.Free.Fl.NoNaN64 (FP.dadd (0 : UInt64) (FP.l2d wa))) (hq172_99 : (FP.dadd (0 : UInt64) (FP.l2d wa)) = zw1) (hv116 : (rb * (p1.toInt64)) = xb) (nn21_2_120 : Jvm.Free.Fl.NoNaN64 (FP.ddiv so1 w1)) (nn5_120 : Jvm.Free.Fl.NoNaN64 (FP.dsub (FP.l2d xb) (FP.ddiv so1 w1))) (hq5_120 : (FP.dsub (FP.l2d xb) (FP.ddiv so1 w1)) = ob2) (nn21_12_120 : Jvm.Free.Fl.NoNaN64 (FP.ddiv sp1 w1)) (nn15_120 : Jvm.Free.Fl.NoNaN64 (FP.dsub (FP.l2d (p1.toInt64)) (FP.ddiv sp1 w1))) (hq15_120 : (FP.dsub (FP.l2d (p1.toInt64)) (FP.ddiv sp1 w1)) = pb2) (nn34_120 : Jvm.Free.Fl.NoNaN64 (FP.dadd w1 (FP.l2d wb))) (hq34_120 : (FP.dadd w1 (FP.l2d wb)) = w2) (nn45_120 : Jvm.Free.Fl.NoNaN64 (FP.dmul (FP.l2d wb) (FP.l2d xb))) (nn46_120 : Jvm.Free.Fl.NoNaN64 (FP.dadd so1 (FP.dmul (FP.l2d wb) (FP.l2d xb)))) (hq46_120 : (FP.dadd so1 (FP.dmul (FP.l2d wb) (FP.l2d xb))) = so2) (nn59_120 : Jvm.Free.Fl.NoNaN64 (FP.dmul (FP.l2d wb) (FP.l2d (p1.toInt64)))) (nn60_120 : Jvm.Free.Fl.NoNaN64 (FP.dadd sp1 (FP.dmul (FP.l2d wb) (FP.l2d (p1.toInt64))))) (hq60_120 : (FP.dadd sp1 (FP.dmul (FP.l2d wb) (FP.l2d (p1.toInt64)))) = sp2) (nn21_66_120 : Jvm.Free.Fl.NoNaN64 (FP.ddiv so2 w2)) (nn69_120 : Jvm.Free.Fl.NoNaN64 (FP.dsub (FP.l2d xb) (FP.ddiv so2 w2))) (hq69_120 : (FP.dsub (FP.l2d xb) (FP.ddiv so2 w2)) = oa2) (nn21_76_120 : Jvm.Free.Fl.NoNaN64 (FP.ddiv sp2 w2)) (nn79_120 : Jvm.Free.Fl.NoNaN64 (FP.dsub (FP.l2d (p1.toInt64)) (FP.ddiv sp2 w2))) (hq79_120 : (FP.dsub (FP.l2d (p1.toInt64)) (FP.ddiv sp2 w2)) = pa2) (nn90_120 : Jvm.Free.Fl.NoNaN64 (FP.dmul (FP.l2d wb) ob2)) (nn93_120 : Jvm.Free.Fl.NoNaN64 (FP.dmul (FP.dmul (FP.l2d wb) ob2) oa2)) (nn94_120 : Jvm.Free.Fl.NoNaN64 (FP.dadd ma1 (FP.dmul (FP.dmul (FP.l2d wb) ob2) oa2))) (hq94_120 : (FP.dadd ma1 (FP.dmul (FP.dmul (FP.l2d wb) ob2) oa2)) = ma2) (nn106_120 : Jvm.Free.Fl.NoNaN64 (FP.dmul (FP.l2d wb) pb2)) (nn109_120 : Jvm.Free.Fl.NoNaN64 (FP.dmul (FP.dmul (FP.l2d wb) pb2) pa2)) (nn110_120 : Jvm.Free.Fl.NoNaN64 (FP.dadd mb1 (FP.dmul (FP.dmul (FP.l2d wb) pb2) pa2))) (hq110_120 : (FP.dadd mb1 (FP.dmul (FP.dmul (FP.l2d wb) pb2) pa2)) = mb2) (nn122_120 : Jvm.Free.Fl.NoNaN64 (FP.dmul (FP.l2d wb) ob2)) (nn125_120 : Jvm.Free.Fl.NoNaN64 (FP.dmul (FP.dmul (FP.l2d wb) ob2) pa2)) (nn126_120 : Jvm.Free.Fl.NoNaN64 (FP.dadd mc1 (FP.dmul (FP.dmul (FP.l2d wb) ob2) pa2))) (hq126_120 : (FP.dadd mc1 (FP.dmul (FP.dmul (FP.l2d wb) ob2) pa2)) = mc2) (hc134_120 : ¬ ((0 : Int32) < (lcmpW (p1.toInt64) (0 : Int64)))) (nn172_120 : Jvm.Free.Fl.NoNaN64 (FP.dadd zw1 (FP.l2d wb))) (hq172_120 : (FP.dadd zw1 (FP.l2d wb)) = zw2) (hc135 : ¬ ((0 : Int32) < p0)) (hc161 : ¬ ((0 : Int32) < p1)) (hd5_183 : (cmpValue (FP.dcmp (0 : UInt64) (0 : UInt64)) .l) = (0 : Int32)) (hd199 : (cmpValue (FP.dcmp (9221120237041090560 : UInt64) (9221120237041090560 : UInt64)) .l) = (-1 : Int32)) :
    MetFree l x (head1 (Jvm.Cond.code x code maxLocals ret :: ws) room_1) (fun a U => a = #[(.int p0), (.int p1), (.int p2), (.int p3), (.int p4), (.int p5)] ∧ Z.Warmed39 U.vm ∧ U.heap = h0) (fun _ _ _ _ _ => True) (fun _ U o U' => ∃ v L, o = .returned v ∧ Q0 n0 v U'.heap L ∧ FrameEnd U o U' L room_1.cells room_1.slots) := by
  refine MetFree.of_bodySF (plainFor_of_name pn_com_example_arrivals_arrivals_core_SequenceStatisticsExpectedRatioPinLaw) hisR ?_
  intro p e s m args below meth c s₁ Bd hml0 hP hK
  obtain ⟨rfl, hZ, hh⟩ := hP
  have hx := Bd.exec
  have hby := Bd.bytes
  have hml : c.maxLocals = 23 := hml0
  have hown : s.vm.findClass "com/example/arrivals/arrivals/core/SequenceStatisticsExpectedRatioPinLaw" = some m.cls := findClass_of_methodNamed Bd.named
  have hnm := (name_of_methodNamed Bd.named Bd.method).1
  have X0 : Stand p l e room_1 s m #[(.int p0), (.int p1), (.int p2), (.int p3), (.int p4), (.int p5)] below meth c s₁ [] 0 0 := Stand.of_body Bd
  have e0 : s₁.heap = h0 := by rw [← hh, Bd.state]; rfl
  have N0 := Fr.nil n0
  have pre0 : ∀ t, Steps p.tables e below (s₁.setTop (mkF m 0 #[.val (.int p0), .val (.int p1), .val (.int p2), .val (.int p3), .val (.int p4), .val (.int p5), .unset, .unset, .unset, .unset, .unset, .unset, .unset, .unset, .unset, .unset, .unset, .unset, .unset, .unset, .unset, .unset, .unset] [])) t → Steps p.tables e below (s₁.setTop (entryFrame m #[(.int p0), (.int p1), (.int p2), (.int p3), (.int p4), (.int p5)] maxLocals)) t := fun t k => castTop (ef_0_IIIIII m p0 p1 p2 p3 p4 p5) k
  obtain ⟨T1, h1, X1, e1, E1, A1, D1, -, st1⟩ := newO X0 hx hZ hown (hw _ (List.mem_of_getElem? (i := 0) rfl)) (hw _ (List.mem_of_getElem? (i := 1) rfl)) (hw _ (List.mem_of_getElem? (i := 2) rfl)) e0 (g := (mkF m 72 #[.val (.int p0), .val (.int p1), .val (.int p2), .val (.int p3), .val (.int p4), .val (.int p5), .val (.long wa), .second, .val (.long wb), .second, .val (.int (1 : Int32)), .val (.int (1 : Int32)), .val (.long ra), .second, .val (.long rb), .second, .unset, .unset, .unset, .unset, .unset, .unset, .unset] [])) rfl (hb hby at_72) (by decide) (by decide)
  obtain ⟨b1, g1⟩ : ∃ z, z = h0.size := ⟨_, rfl⟩
  rw [← g1] at A1 D1 st1
  have g_b1 : n0 ≤ b1 := Nat.le_trans Z0 (Nat.le_of_eq g1.symm)
  have sz_b1 : h0.size ≤ b1 := Nat.le_trans (Keep.refl h0 []).1 (Nat.le_of_eq g1.symm)
  have K1 : Keep h0 h1 [] := (Keep.refl h0 []).ext E1
  have Zs1 := Nat.le_trans Z0 E1.1
  have F1_positiveWeight : Fld Z h1 b1 "com/example/arrivals/arrivals/core/SequenceStatistics" "positiveWeight" "D" (.double (0 : UInt64)) := D1 (Or.inl (hw _ (List.mem_of_getElem? (i := 15) rfl))) (ty := .double) (by decide)
  have F1_count : Fld Z h1 b1 "com/example/arrivals/arrivals/core/SequenceStatistics" "count" "J" (.long (0 : Int64)) := D1 (Or.inl (hw _ (List.mem_of_getElem? (i := 28) rfl))) (ty := .long) (by decide)
  have F1_weight : Fld Z h1 b1 "com/example/arrivals/arrivals/core/SequenceStatistics" "weight" "D" (.double (0 : UInt64)) := D1 (Or.inl (hw _ (List.mem_of_getElem? (i := 35) rfl))) (ty := .double) (by decide)
  have F1_sumOnline : Fld Z h1 b1 "com/example/arrivals/arrivals/core/SequenceStatistics" "sumOnline" "D" (.double (0 : UInt64)) := D1 (Or.inl (hw _ (List.mem_of_getElem? (i := 37) rfl))) (ty := .double) (by decide)
  have F1_sumOptimum : Fld Z h1 b1 "com/example/arrivals/arrivals/core/SequenceStatistics" "sumOptimum" "D" (.double (0 : UInt64)) := D1 (Or.inl (hw _ (List.mem_of_getElem? (i := 39) rfl))) (ty := .double) (by decide)
  have F1_comomentOnline : Fld Z h1 b1 "com/example/arrivals/arrivals/core/SequenceStatistics" "comomentOnline" "D" (.double (0 : UInt64)) := D1 (Or.inl (hw _ (List.mem_of_getElem? (i := 41) rfl))) (ty := .double) (by decide)
  have F1_comomentOptimum : Fld Z h1 b1 "com/example/arrivals/arrivals/core/SequenceStatistics" "comomentOptimum" "D" (.double (0 : UInt64)) := D1 (Or.inl (hw _ (List.mem_of_getElem? (i := 43) rfl))) (ty := .double) (by decide)
  have F1_comomentBoth : Fld Z h1 b1 "com/example/arrivals/arrivals/core/SequenceStatistics" "comomentBoth" "D" (.double (0 : UInt64)) := D1 (Or.inl (hw _ (List.mem_of_getElem? (i := 45) rfl))) (ty := .double) (by decide)
  have F1_zeroWeight : Fld Z h1 b1 "com/example/arrivals/arrivals/core/SequenceStatistics" "zeroWeight" "D" (.double (0 : UInt64)) := D1 (Or.inl (hw _ (List.mem_of_getElem? (i := 47) rfl))) (ty := .double) (by decide)
  have F1_weightedRatios : Fld Z h1 b1 "com/example/arrivals/arrivals/core/SequenceStatistics" "weightedRatios" "D" (.double (0 : UInt64)) := D1 (Or.inl (hw _ (List.mem_of_getElem? (i := 49) rfl))) (ty := .double) (by decide)
  obtain ⟨_, _, ⟨T2, L2, k2, n2⟩, -, X2, ⟨Lc2, hQ2, l2, y2, z2⟩, st2⟩ := X1.specialBack hx (y := (⟨"com/example/arrivals/arrivals/core/SequenceStatistics", "<init>", "()V"⟩ : MethodName)) rfl hown (mvT hZ (hw _ (List.mem_of_getElem? (i := 3) rfl))) (mvT hZ (hw _ (List.mem_of_getElem? (i := 4) rfl))) (mvT hZ (hw _ (List.mem_of_getElem? (i := 5) rfl))) (by decide) (backOf (W := 1) (rm1 l Z a0 hw [] b1 h1 n0 Zs1 A1) hZ (hw _ (List.mem_of_getElem? (i := 5) rfl)) (hw _ (List.mem_of_getElem? (i := 2) rfl)) (by decide) (by decide)) (g := (mkF m 76 #[.val (.int p0), .val (.int p1), .val (.int p2), .val (.int p3), .val (.int p4), .val (.int p5), .val (.long wa), .second, .val (.long wb), .second, .val (.int (1 : Int32)), .val (.int (1 : Int32)), .val (.long ra), .second, .val (.long rb), .second, .unset, .unset, .unset, .unset, .unset, .unset, .unset] [(.ref b1), (.ref b1)])) rfl (by rw [hml]; rfl) (Steps.refl _) (a := b1) (argsL := []) (rest := [(.ref b1)]) (lenOf pd_1 rfl) rfl (by show 2 * 0 + _ ≤ _; exact Nat.le_of_eq rfl) (hb hby at_76) (fun _ _ => ⟨rfl, e1, (by decide : 1 + 0 ≤ _), (by decide : 10 + 0 ≤ _)⟩)
  dsimp only [Pt.U, Pt.locs, Pt.cells, Pt.slots] at X2 l2 y2 z2 st2 hQ2
  subst l2 y2 z2
  obtain ⟨rfl, N2q, eh2⟩ := hQ2
  have N2 := Fr.app N0 N2q
  have e2 : T2.heap = h1 := eh2
  obtain ⟨cq3, kq3, q3a, q3b, q3c⟩ := isOf hZ e2 A1
  obtain ⟨_, _, ⟨T3, L3, k3, n3⟩, -, X3, ⟨Lc3, hQ3, l3, y3, z3⟩, st3⟩ := X2.virtualBack hx (y := (⟨"com/example/arrivals/arrivals/core/SequenceStatistics", "add", "(DDJ)V"⟩ : MethodName)) (z := (⟨"com/example/arrivals/arrivals/core/SequenceStatistics", "add", "(DDJ)V"⟩ : MethodName)) hown (mvT hZ (hw _ (List.mem_of_getElem? (i := 17) rfl))) (mvT hZ (hw _ (List.mem_of_getElem? (i := 18) rfl))) (notFace_of_selects (args := #[]) (mvT hZ (hw _ (List.mem_of_getElem? (i := 20) rfl)))) (mvT hZ (hw _ (List.mem_of_getElem? (i := 20) rfl))) (mvT hZ (hw _ (List.mem_of_getElem? (i := 19) rfl))) (by decide) (backOf (W := 0) (rm4_0z l Z a0 hw [] b1 (FP.l2d wa) (FP.l2d xa) (p0.toInt64) ob1 pb1 w1 so1 sp1 oa1 pa1 ma1 mb1 mc1 zw1 h1 n0 Zs1 A1 g_b1 F1_count F1_weight F1_sumOnline F1_sumOptimum F1_comomentOnline F1_comomentOptimum F1_comomentBoth F1_positiveWeight F1_weightedRatios F1_zeroWeight nn5_99 hq5_99 nn15_99 hq15_99 nn34_99 hq34_99 nn45_99 nn46_99 hq46_99 nn59_99 nn60_99 hq60_99 nn21_66_99 nn69_99 hq69_99 nn21_76_99 nn79_99 hq79_99 nn90_99 nn93_99 nn94_99 hq94_99 nn106_99 nn109_99 nn110_99 hq110_99 nn122_99 nn125_99 nn126_99 hq126_99 hc134_99 nn172_99 hq172_99) hZ (hw _ (List.mem_of_getElem? (i := 21) rfl)) (hw _ (List.mem_of_getElem? (i := 2) rfl)) (by decide) (by decide)) q3a q3c (g := (mkF m 99 #[.val (.int p0), .val (.int p1), .val (.int p2), .val (.int p3), .val (.int p4), .val (.int p5), .val (.long wa), .second, .val (.long wb), .second, .val (.int (1 : Int32)), .val (.int (1 : Int32)), .val (.long ra), .second, .val (.long rb), .second, .val (.ref b1), .unset, .unset, .unset, .unset, .unset, .unset] [(.long (p0.toInt64)), (.double (FP.l2d xa)), (.double (FP.l2d wa)), (.ref b1)])) rfl (by rw [hml]; rfl) (Steps.refl _) (argsL := [(.double (FP.l2d wa)), (.double (FP.l2d xa)), (.long (p0.toInt64))]) (rest := []) (lenOf pd_2 rfl) rfl (by show 2 * 0 + _ ≤ _; exact Nat.le_of_eq rfl) (hb hby at_99) (fun _ _ => ⟨rfl, e2, (by decide : 1 + 0 ≤ _), (by decide : 10 + 0 ≤ _)⟩)
  dsimp only [Pt.U, Pt.locs, Pt.cells, Pt.slots] at X3 l3 y3 z3 st3 hQ3
  subst l3 y3 z3
  obtain ⟨rfl, N3q, K3q, f4, f5, f6, f7, f8, f9, f10, f11, f12, f13, f14⟩ := hQ3
  have N3 := Fr.app N2 N3q
  have f15 := A1.keep K3q
  have K3 : Keep h0 T3.heap [] := K1.trans K3q (own_allS (Or.inr sz_b1) own_all0)
  have Zs3 := Nat.le_trans Zs1 K3q.1
  obtain ⟨cq16, kq16, q16a, q16b, q16c⟩ := isOf hZ rfl f4
  obtain ⟨_, _, ⟨T16, L16, k16, n16⟩, -, X16, ⟨Lc16, hQ16, l16, y16, z16⟩, st16⟩ := X3.virtualBack hx (y := (⟨"com/example/arrivals/arrivals/core/SequenceStatistics", "add", "(DDJ)V"⟩ : MethodName)) (z := (⟨"com/example/arrivals/arrivals/core/SequenceStatistics", "add", "(DDJ)V"⟩ : MethodName)) hown (mvT hZ (hw _ (List.mem_of_getElem? (i := 17) rfl))) (mvT hZ (hw _ (List.mem_of_getElem? (i := 18) rfl))) (notFace_of_selects (args := #[]) (mvT hZ (hw _ (List.mem_of_getElem? (i := 20) rfl)))) (mvT hZ (hw _ (List.mem_of_getElem? (i := 20) rfl))) (mvT hZ (hw _ (List.mem_of_getElem? (i := 19) rfl))) (by decide) (backOf (W := 0) (rm4_1z l Z a0 hw [] b1 (FP.l2d wb) (FP.l2d xb) (p1.toInt64) w1 so1 sp1 ma1 mb1 mc1 (0 : UInt64) (0 : UInt64) zw1 ob2 pb2 w2 so2 sp2 oa2 pa2 ma2 mb2 mc2 zw2 T3.heap n0 Zs3 f4 g_b1 f5 f6 f7 f8 f9 f10 f11 f12 f13 f14 nn21_2_120 nn5_120 hq5_120 nn21_12_120 nn15_120 hq15_120 nn34_120 hq34_120 nn45_120 nn46_120 hq46_120 nn59_120 nn60_120 hq60_120 nn21_66_120 nn69_120 hq69_120 nn21_76_120 nn79_120 hq79_120 nn90_120 nn93_120 nn94_120 hq94_120 nn106_120 nn109_120 nn110_120 hq110_120 nn122_120 nn125_120 nn126_120 hq126_120 hc134_120 nn172_120 hq172_120) hZ (hw _ (List.mem_of_getElem? (i := 21) rfl)) (hw _ (List.mem_of_getElem? (i := 2) rfl)) (by decide) (by decide)) q16a q16c (g := (mkF m 120 #[.val (.int p0), .val (.int p1), .val (.int p2), .val (.int p3), .val (.int p4), .val (.int p5), .val (.long wa), .second, .val (.long wb), .second, .val (.int (1 : Int32)), .val (.int (1 : Int32)), .val (.long ra), .second, .val (.long rb), .second, .val (.ref b1), .unset, .unset, .unset, .unset, .unset, .unset] [(.long (p1.toInt64)), (.double (FP.l2d xb)), (.double (FP.l2d wb)), (.ref b1)])) rfl (by rw [hml]; rfl) (Steps.refl _) (argsL := [(.double (FP.l2d wb)), (.double (FP.l2d xb)), (.long (p1.toInt64))]) (rest := []) (lenOf pd_2 rfl) rfl (by show 2 * 0 + _ ≤ _; exact Nat.le_of_eq rfl) (hb hby at_120) (fun _ _ => ⟨rfl, rfl, (by decide : 1 + 0 ≤ _), (by decide : 10 + 0 ≤ _)⟩)
  dsimp only [Pt.U, Pt.locs, Pt.cells, Pt.slots] at X16 l16 y16 z16 st16 hQ16
  subst l16 y16 z16
  obtain ⟨rfl, N16q, K16q, f17, f18, f19, f20, f21, f22, f23, f24, f25, f26, f27⟩ := hQ16
  have N16 := Fr.app N3 N16q
  have f28 := f4.keep K16q
  have K16 : Keep h0 T16.heap [] := K3.trans K16q (own_allS (Or.inr sz_b1) own_all0)
  have Zs16 := Nat.le_trans Zs3 K16q.1
  obtain ⟨cq29, kq29, q29a, q29b, q29c⟩ := isOf hZ rfl f17
  obtain ⟨_, _, ⟨T29, L29, k29, n29⟩, -, X29, ⟨Lc29, hQ29, l29, y29, z29⟩, st29⟩ := X16.virtualBack hx (y := (⟨"com/example/arrivals/arrivals/core/SequenceStatistics", "expectedRatio", "()D"⟩ : MethodName)) (z := (⟨"com/example/arrivals/arrivals/core/SequenceStatistics", "expectedRatio", "()D"⟩ : MethodName)) hown (mvT hZ (hw _ (List.mem_of_getElem? (i := 9) rfl))) (mvT hZ (hw _ (List.mem_of_getElem? (i := 10) rfl))) (notFace_of_selects (args := #[]) (mvT hZ (hw _ (List.mem_of_getElem? (i := 12) rfl)))) (mvT hZ (hw _ (List.mem_of_getElem? (i := 12) rfl))) (mvT hZ (hw _ (List.mem_of_getElem? (i := 11) rfl))) (by decide) (backOf (W := 0) (rm3z l Z a0 hw [] b1 (0 : UInt64) (0 : UInt64) T16.heap n0 Zs16 f25 f26 hd5_183) hZ (hw _ (List.mem_of_getElem? (i := 13) rfl)) (hw _ (List.mem_of_getElem? (i := 2) rfl)) (by decide) (by decide)) q29a q29c (g := (mkF m 183 #[.val (.int p0), .val (.int p1), .val (.int p2), .val (.int p3), .val (.int p4), .val (.int p5), .val (.long wa), .second, .val (.long wb), .second, .val (.int (1 : Int32)), .val (.int (1 : Int32)), .val (.long ra), .second, .val (.long rb), .second, .val (.ref b1), .val (.long (0 : Int64)), .second, .val (.long (0 : Int64)), .second, .unset, .unset] [(.ref b1)])) rfl (by rw [hml]; rfl) (Steps.refl _) (argsL := []) (rest := []) (lenOf pd_0 rfl) rfl (by show 2 * 0 + _ ≤ _; exact Nat.le_of_eq rfl) (hb hby at_183) (fun _ _ => ⟨rfl, rfl, (by decide : 1 + 0 ≤ _), (by decide : 10 + 0 ≤ _)⟩)
  dsimp only [Pt.U, Pt.locs, Pt.cells, Pt.slots] at X29 l29 y29 z29 st29 hQ29
  subst l29 y29 z29
  obtain ⟨rfl, N29q, eh29⟩ := hQ29
  have N29 := Fr.app N16 N29q
  have e29 : T29.heap = T16.heap := eh29
  obtain ⟨fs, hr, hrun, hended, hW, hsame⟩ := X29.leave (v := some (.int (1 : Int32))) (fun h => by rw [Bd.returns] at h; cases h)
  refine ⟨_, _, pre0 _ ?_, hrun, hended, _, _, rfl, ?_, ⟨_, rfl⟩, hW, hsame.mono (by decide) (by decide)⟩
  · show Steps p.tables e below (s₁.setTop (mkF m 0 #[.val (.int p0), .val (.int p1), .val (.int p2), .val (.int p3), .val (.int p4), .val (.int p5), .unset, .unset, .unset, .unset, .unset, .unset, .unset, .unset, .unset, .unset, .unset, .unset, .unset, .unset, .unset, .unset, .unset] [])) _
    refine XS.iload X0.here hx rfl (hb hby at_0) rfl ?_
    refine XS.sipush X0.here hx rfl (hb hby at_2) ?_
    refine XS.iand X0.here hx rfl (hb hby at_5) rfl ?_
    refine XS.iconst X0.here hx rfl (hb hby at_6) ?_
    refine XS.iadd X0.here hx rfl (hb hby at_7) rfl ?_
    show Steps p.tables e below (s₁.setTop (mkF m 8 #[.val (.int p0), .val (.int p1), .val (.int p2), .val (.int p3), .val (.int p4), .val (.int p5), .unset, .unset, .unset, .unset, .unset, .unset, .unset, .unset, .unset, .unset, .unset, .unset, .unset, .unset, .unset, .unset, .unset] [(.int ((p4 &&& (1023 : Int32)) + (1 : Int32)))])) _
    refine XS.i2l X0.here hx rfl (hb hby at_8) rfl ?_
    show Steps p.tables e below (s₁.setTop (mkF m 9 #[.val (.int p0), .val (.int p1), .val (.int p2), .val (.int p3), .val (.int p4), .val (.int p5), .unset, .unset, .unset, .unset, .unset, .unset, .unset, .unset, .unset, .unset, .unset, .unset, .unset, .unset, .unset, .unset, .unset] [(.long (((p4 &&& (1023 : Int32)) + (1 : Int32)).toInt64))])) _
    rw [hv8]
    show Steps p.tables e below (s₁.setTop (mkF m 9 #[.val (.int p0), .val (.int p1), .val (.int p2), .val (.int p3), .val (.int p4), .val (.int p5), .unset, .unset, .unset, .unset, .unset, .unset, .unset, .unset, .unset, .unset, .unset, .unset, .unset, .unset, .unset, .unset, .unset] [(.long wa)])) _
    refine XS.lstore X0.here hx rfl (hb hby at_9) rfl (l' := #[.val (.int p0), .val (.int p1), .val (.int p2), .val (.int p3), .val (.int p4), .val (.int p5), .val (.long wa), .second, .unset, .unset, .unset, .unset, .unset, .unset, .unset, .unset, .unset, .unset, .unset, .unset, .unset, .unset, .unset]) rfl ?_
    refine XS.iload X0.here hx rfl (hb hby at_11) rfl ?_
    refine XS.sipush X0.here hx rfl (hb hby at_13) ?_
    refine XS.iand X0.here hx rfl (hb hby at_16) rfl ?_
    show Steps p.tables e below (s₁.setTop (mkF m 17 #[.val (.int p0), .val (.int p1), .val (.int p2), .val (.int p3), .val (.int p4), .val (.int p5), .val (.long wa), .second, .unset, .unset, .unset, .unset, .unset, .unset, .unset, .unset, .unset, .unset, .unset, .unset, .unset, .unset, .unset] [(.int (p5 &&& (1023 : Int32)))])) _
    refine XS.iconst X0.here hx rfl (hb hby at_17) ?_
    refine XS.iadd X0.here hx rfl (hb hby at_18) rfl ?_
    refine XS.i2l X0.here hx rfl (hb hby at_19) rfl ?_
    show Steps p.tables e below (s₁.setTop (mkF m 20 #[.val (.int p0), .val (.int p1), .val (.int p2), .val (.int p3), .val (.int p4), .val (.int p5), .val (.long wa), .second, .unset, .unset, .unset, .unset, .unset, .unset, .unset, .unset, .unset, .unset, .unset, .unset, .unset, .unset, .unset] [(.long (((p5 &&& (1023 : Int32)) + (1 : Int32)).toInt64))])) _
    rw [hv19]
    show Steps p.tables e below (s₁.setTop (mkF m 20 #[.val (.int p0), .val (.int p1), .val (.int p2), .val (.int p3), .val (.int p4), .val (.int p5), .val (.long wa), .second, .unset, .unset, .unset, .unset, .unset, .unset, .unset, .unset, .unset, .unset, .unset, .unset, .unset, .unset, .unset] [(.long wb)])) _
    refine XS.lstore X0.here hx rfl (hb hby at_20) rfl (l' := #[.val (.int p0), .val (.int p1), .val (.int p2), .val (.int p3), .val (.int p4), .val (.int p5), .val (.long wa), .second, .val (.long wb), .second, .unset, .unset, .unset, .unset, .unset, .unset, .unset, .unset, .unset, .unset, .unset, .unset, .unset]) rfl ?_
    refine XS.iload X0.here hx rfl (hb hby at_22) rfl ?_
    show Steps p.tables e below (s₁.setTop (mkF m 24 #[.val (.int p0), .val (.int p1), .val (.int p2), .val (.int p3), .val (.int p4), .val (.int p5), .val (.long wa), .second, .val (.long wb), .second, .unset, .unset, .unset, .unset, .unset, .unset, .unset, .unset, .unset, .unset, .unset, .unset, .unset] [(.int p4)])) _
    refine XS.bipush X0.here hx rfl (hb hby at_24) ?_
    refine XS.iushr X0.here hx rfl (hb hby at_26) rfl ?_
    refine XS.iconst X0.here hx rfl (hb hby at_27) ?_
    refine XS.iand X0.here hx rfl (hb hby at_28) rfl ?_
    refine XS.ifNo X0.here hx rfl (hb hby at_29) rfl ((if0 _ _).trans (feq hc29).1) ?_
    refine XS.iconst X0.here hx rfl (hb hby at_32) ?_
    show Steps p.tables e below (s₁.setTop (mkF m 33 #[.val (.int p0), .val (.int p1), .val (.int p2), .val (.int p3), .val (.int p4), .val (.int p5), .val (.long wa), .second, .val (.long wb), .second, .unset, .unset, .unset, .unset, .unset, .unset, .unset, .unset, .unset, .unset, .unset, .unset, .unset] [(.int (1 : Int32))])) _
    refine XS.goto X0.here hx rfl (pc0 := 33) (pc' := 37) rfl (hb hby at_33) (by decide) (by decide) ?_
    refine XS.istore X0.here hx rfl (hb hby at_37) rfl (l' := #[.val (.int p0), .val (.int p1), .val (.int p2), .val (.int p3), .val (.int p4), .val (.int p5), .val (.long wa), .second, .val (.long wb), .second, .val (.int (1 : Int32)), .unset, .unset, .unset, .unset, .unset, .unset, .unset, .unset, .unset, .unset, .unset, .unset]) rfl ?_
    refine XS.iload X0.here hx rfl (hb hby at_39) rfl ?_
    refine XS.bipush X0.here hx rfl (hb hby at_41) ?_
    refine XS.iushr X0.here hx rfl (hb hby at_43) rfl ?_
    refine XS.iconst X0.here hx rfl (hb hby at_44) ?_
    show Steps p.tables e below (s₁.setTop (mkF m 45 #[.val (.int p0), .val (.int p1), .val (.int p2), .val (.int p3), .val (.int p4), .val (.int p5), .val (.long wa), .second, .val (.long wb), .second, .val (.int (1 : Int32)), .unset, .unset, .unset, .unset, .unset, .unset, .unset, .unset, .unset, .unset, .unset, .unset] [(.int (3 : Int32)), (.int ((p5.toUInt32 >>> ((10 : Int32) &&& 31).toUInt32).toInt32))])) _
    refine XS.iand X0.here hx rfl (hb hby at_45) rfl ?_
    refine XS.ifNo X0.here hx rfl (hb hby at_46) rfl ((if0 _ _).trans (feq hc46).1) ?_
    refine XS.iconst X0.here hx rfl (hb hby at_49) ?_
    refine XS.goto X0.here hx rfl (pc0 := 50) (pc' := 54) rfl (hb hby at_50) (by decide) (by decide) ?_
    refine XS.istore X0.here hx rfl (hb hby at_54) rfl (l' := #[.val (.int p0), .val (.int p1), .val (.int p2), .val (.int p3), .val (.int p4), .val (.int p5), .val (.long wa), .second, .val (.long wb), .second, .val (.int (1 : Int32)), .val (.int (1 : Int32)), .unset, .unset, .unset, .unset, .unset, .unset, .unset, .unset, .unset, .unset, .unset]) rfl ?_
    refine XS.iloadN X0.here hx rfl (hb hby at_56) rfl ?_
    show Steps p.tables e below (s₁.setTop (mkF m 57 #[.val (.int p0), .val (.int p1), .val (.int p2), .val (.int p3), .val (.int p4), .val (.int p5), .val (.long wa), .second, .val (.long wb), .second, .val (.int (1 : Int32)), .val (.int (1 : Int32)), .unset, .unset, .unset, .unset, .unset, .unset, .unset, .unset, .unset, .unset, .unset] [(.int p2)])) _
    refine XS.sipush X0.here hx rfl (hb hby at_57) ?_
    refine iremM (g := (mkF m 60 #[.val (.int p0), .val (.int p1), .val (.int p2), .val (.int p3), .val (.int p4), .val (.int p5), .val (.long wa), .second, .val (.long wb), .second, .val (.int (1 : Int32)), .val (.int (1 : Int32)), .unset, .unset, .unset, .unset, .unset, .unset, .unset, .unset, .unset, .unset, .unset] [(.int (1024 : Int32)), (.int p2)])) X0 hx rfl (hb hby at_60) rfl (by decide) ?_
    show Steps p.tables e below (s₁.setTop (mkF m 61 #[.val (.int p0), .val (.int p1), .val (.int p2), .val (.int p3), .val (.int p4), .val (.int p5), .val (.long wa), .second, .val (.long wb), .second, .val (.int (1 : Int32)), .val (.int (1 : Int32)), .unset, .unset, .unset, .unset, .unset, .unset, .unset, .unset, .unset, .unset, .unset] [(.int (p2 % (1024 : Int32)))])) _
    refine XS.i2l X0.here hx rfl (hb hby at_61) rfl ?_
    show Steps p.tables e below (s₁.setTop (mkF m 62 #[.val (.int p0), .val (.int p1), .val (.int p2), .val (.int p3), .val (.int p4), .val (.int p5), .val (.long wa), .second, .val (.long wb), .second, .val (.int (1 : Int32)), .val (.int (1 : Int32)), .unset, .unset, .unset, .unset, .unset, .unset, .unset, .unset, .unset, .unset, .unset] [(.long ((p2 % (1024 : Int32)).toInt64))])) _
    rw [hv61]
    show Steps p.tables e below (s₁.setTop (mkF m 62 #[.val (.int p0), .val (.int p1), .val (.int p2), .val (.int p3), .val (.int p4), .val (.int p5), .val (.long wa), .second, .val (.long wb), .second, .val (.int (1 : Int32)), .val (.int (1 : Int32)), .unset, .unset, .unset, .unset, .unset, .unset, .unset, .unset, .unset, .unset, .unset] [(.long ra)])) _
    refine XS.lstore X0.here hx rfl (hb hby at_62) rfl (l' := #[.val (.int p0), .val (.int p1), .val (.int p2), .val (.int p3), .val (.int p4), .val (.int p5), .val (.long wa), .second, .val (.long wb), .second, .val (.int (1 : Int32)), .val (.int (1 : Int32)), .val (.long ra), .second, .unset, .unset, .unset, .unset, .unset, .unset, .unset, .unset, .unset]) rfl ?_
    refine XS.iloadN X0.here hx rfl (hb hby at_64) rfl ?_
    show Steps p.tables e below (s₁.setTop (mkF m 65 #[.val (.int p0), .val (.int p1), .val (.int p2), .val (.int p3), .val (.int p4), .val (.int p5), .val (.long wa), .second, .val (.long wb), .second, .val (.int (1 : Int32)), .val (.int (1 : Int32)), .val (.long ra), .second, .unset, .unset, .unset, .unset, .unset, .unset, .unset, .unset, .unset] [(.int p3)])) _
    refine XS.sipush X0.here hx rfl (hb hby at_65) ?_
    refine iremM (g := (mkF m 68 #[.val (.int p0), .val (.int p1), .val (.int p2), .val (.int p3), .val (.int p4), .val (.int p5), .val (.long wa), .second, .val (.long wb), .second, .val (.int (1 : Int32)), .val (.int (1 : Int32)), .val (.long ra), .second, .unset, .unset, .unset, .unset, .unset, .unset, .unset, .unset, .unset] [(.int (1024 : Int32)), (.int p3)])) X0 hx rfl (hb hby at_68) rfl (by decide) ?_
    show Steps p.tables e below (s₁.setTop (mkF m 69 #[.val (.int p0), .val (.int p1), .val (.int p2), .val (.int p3), .val (.int p4), .val (.int p5), .val (.long wa), .second, .val (.long wb), .second, .val (.int (1 : Int32)), .val (.int (1 : Int32)), .val (.long ra), .second, .unset, .unset, .unset, .unset, .unset, .unset, .unset, .unset, .unset] [(.int (p3 % (1024 : Int32)))])) _
    refine XS.i2l X0.here hx rfl (hb hby at_69) rfl ?_
    show Steps p.tables e below (s₁.setTop (mkF m 70 #[.val (.int p0), .val (.int p1), .val (.int p2), .val (.int p3), .val (.int p4), .val (.int p5), .val (.long wa), .second, .val (.long wb), .second, .val (.int (1 : Int32)), .val (.int (1 : Int32)), .val (.long ra), .second, .unset, .unset, .unset, .unset, .unset, .unset, .unset, .unset, .unset] [(.long ((p3 % (1024 : Int32)).toInt64))])) _
    rw [hv69]
    show Steps p.tables e below (s₁.setTop (mkF m 70 #[.val (.int p0), .val (.int p1), .val (.int p2), .val (.int p3), .val (.int p4), .val (.int p5), .val (.long wa), .second, .val (.long wb), .second, .val (.int (1 : Int32)), .val (.int (1 : Int32)), .val (.long ra), .second, .unset, .unset, .unset, .unset, .unset, .unset, .unset, .unset, .unset] [(.long rb)])) _
    refine XS.lstore X0.here hx rfl (hb hby at_70) rfl (l' := #[.val (.int p0), .val (.int p1), .val (.int p2), .val (.int p3), .val (.int p4), .val (.int p5), .val (.long wa), .second, .val (.long wb), .second, .val (.int (1 : Int32)), .val (.int (1 : Int32)), .val (.long ra), .second, .val (.long rb), .second, .unset, .unset, .unset, .unset, .unset, .unset, .unset]) rfl ?_
    refine st1 _ ?_
    show Steps p.tables e below (T1.setTop (mkF m 75 #[.val (.int p0), .val (.int p1), .val (.int p2), .val (.int p3), .val (.int p4), .val (.int p5), .val (.long wa), .second, .val (.long wb), .second, .val (.int (1 : Int32)), .val (.int (1 : Int32)), .val (.long ra), .second, .val (.long rb), .second, .unset, .unset, .unset, .unset, .unset, .unset, .unset] [(.ref b1)])) _
    refine XS.dup X1.here hx rfl (hb hby at_75) rfl rfl ?_
    refine st2.trans ?_
    show Steps p.tables e below (T2.setTop (mkF m 79 #[.val (.int p0), .val (.int p1), .val (.int p2), .val (.int p3), .val (.int p4), .val (.int p5), .val (.long wa), .second, .val (.long wb), .second, .val (.int (1 : Int32)), .val (.int (1 : Int32)), .val (.long ra), .second, .val (.long rb), .second, .unset, .unset, .unset, .unset, .unset, .unset, .unset] [(.ref b1)])) _
    refine XS.astore X2.here hx rfl (hb hby at_79) rfl rfl (l' := #[.val (.int p0), .val (.int p1), .val (.int p2), .val (.int p3), .val (.int p4), .val (.int p5), .val (.long wa), .second, .val (.long wb), .second, .val (.int (1 : Int32)), .val (.int (1 : Int32)), .val (.long ra), .second, .val (.long rb), .second, .val (.ref b1), .unset, .unset, .unset, .unset, .unset, .unset]) rfl ?_
    refine XS.iload X2.here hx rfl (hb hby at_81) rfl ?_
    refine XS.ifNo X2.here hx rfl (hb hby at_83) rfl ((if0 _ _).trans (feq (by decide : ¬ ((1 : Int32) = (0 : Int32)))).1) ?_
    refine XS.aload X2.here hx rfl (hb hby at_86) rfl rfl ?_
    show Steps p.tables e below (T2.setTop (mkF m 88 #[.val (.int p0), .val (.int p1), .val (.int p2), .val (.int p3), .val (.int p4), .val (.int p5), .val (.long wa), .second, .val (.long wb), .second, .val (.int (1 : Int32)), .val (.int (1 : Int32)), .val (.long ra), .second, .val (.long rb), .second, .val (.ref b1), .unset, .unset, .unset, .unset, .unset, .unset] [(.ref b1)])) _
    refine XS.lload X2.here hx rfl (hb hby at_88) rfl ?_
    refine XS.l2dS X2.here hx rfl (hb hby at_90) rfl (v := (FP.l2d wa)) rfl ?_
    refine XS.lload X2.here hx rfl (hb hby at_91) rfl ?_
    refine XS.iloadN X2.here hx rfl (hb hby at_93) rfl ?_
    refine XS.i2l X2.here hx rfl (hb hby at_94) rfl ?_
    refine XS.lmul X2.here hx rfl (hb hby at_95) rfl ?_
    show Steps p.tables e below (T2.setTop (mkF m 96 #[.val (.int p0), .val (.int p1), .val (.int p2), .val (.int p3), .val (.int p4), .val (.int p5), .val (.long wa), .second, .val (.long wb), .second, .val (.int (1 : Int32)), .val (.int (1 : Int32)), .val (.long ra), .second, .val (.long rb), .second, .val (.ref b1), .unset, .unset, .unset, .unset, .unset, .unset] [(.long (ra * (p0.toInt64))), (.double (FP.l2d wa)), (.ref b1)])) _
    rw [hv95]
    show Steps p.tables e below (T2.setTop (mkF m 96 #[.val (.int p0), .val (.int p1), .val (.int p2), .val (.int p3), .val (.int p4), .val (.int p5), .val (.long wa), .second, .val (.long wb), .second, .val (.int (1 : Int32)), .val (.int (1 : Int32)), .val (.long ra), .second, .val (.long rb), .second, .val (.ref b1), .unset, .unset, .unset, .unset, .unset, .unset] [(.long xa), (.double (FP.l2d wa)), (.ref b1)])) _
    refine XS.l2dS X2.here hx rfl (hb hby at_96) rfl (v := (FP.l2d xa)) rfl ?_
    refine XS.iloadN X2.here hx rfl (hb hby at_97) rfl ?_
    refine XS.i2l X2.here hx rfl (hb hby at_98) rfl ?_
    refine st3.trans ?_
    show Steps p.tables e below (T3.setTop (mkF m 102 #[.val (.int p0), .val (.int p1), .val (.int p2), .val (.int p3), .val (.int p4), .val (.int p5), .val (.long wa), .second, .val (.long wb), .second, .val (.int (1 : Int32)), .val (.int (1 : Int32)), .val (.long ra), .second, .val (.long rb), .second, .val (.ref b1), .unset, .unset, .unset, .unset, .unset, .unset] [])) _
    refine XS.iload X3.here hx rfl (hb hby at_102) rfl ?_
    show Steps p.tables e below (T3.setTop (mkF m 104 #[.val (.int p0), .val (.int p1), .val (.int p2), .val (.int p3), .val (.int p4), .val (.int p5), .val (.long wa), .second, .val (.long wb), .second, .val (.int (1 : Int32)), .val (.int (1 : Int32)), .val (.long ra), .second, .val (.long rb), .second, .val (.ref b1), .unset, .unset, .unset, .unset, .unset, .unset] [(.int (1 : Int32))])) _
    refine XS.ifNo X3.here hx rfl (hb hby at_104) rfl ((if0 _ _).trans (feq (by decide : ¬ ((1 : Int32) = (0 : Int32)))).1) ?_
    refine XS.aload X3.here hx rfl (hb hby at_107) rfl rfl ?_
    refine XS.lload X3.here hx rfl (hb hby at_109) rfl ?_
    refine XS.l2dS X3.here hx rfl (hb hby at_111) rfl (v := (FP.l2d wb)) rfl ?_
    refine XS.lload X3.here hx rfl (hb hby at_112) rfl ?_
    refine XS.iloadN X3.here hx rfl (hb hby at_114) rfl ?_
    show Steps p.tables e below (T3.setTop (mkF m 115 #[.val (.int p0), .val (.int p1), .val (.int p2), .val (.int p3), .val (.int p4), .val (.int p5), .val (.long wa), .second, .val (.long wb), .second, .val (.int (1 : Int32)), .val (.int (1 : Int32)), .val (.long ra), .second, .val (.long rb), .second, .val (.ref b1), .unset, .unset, .unset, .unset, .unset, .unset] [(.int p1), (.long rb), (.double (FP.l2d wb)), (.ref b1)])) _
    refine XS.i2l X3.here hx rfl (hb hby at_115) rfl ?_
    refine XS.lmul X3.here hx rfl (hb hby at_116) rfl ?_
    show Steps p.tables e below (T3.setTop (mkF m 117 #[.val (.int p0), .val (.int p1), .val (.int p2), .val (.int p3), .val (.int p4), .val (.int p5), .val (.long wa), .second, .val (.long wb), .second, .val (.int (1 : Int32)), .val (.int (1 : Int32)), .val (.long ra), .second, .val (.long rb), .second, .val (.ref b1), .unset, .unset, .unset, .unset, .unset, .unset] [(.long (rb * (p1.toInt64))), (.double (FP.l2d wb)), (.ref b1)])) _
    rw [hv116]
    show Steps p.tables e below (T3.setTop (mkF m 117 #[.val (.int p0), .val (.int p1), .val (.int p2), .val (.int p3), .val (.int p4), .val (.int p5), .val (.long wa), .second, .val (.long wb), .second, .val (.int (1 : Int32)), .val (.int (1 : Int32)), .val (.long ra), .second, .val (.long rb), .second, .val (.ref b1), .unset, .unset, .unset, .unset, .unset, .unset] [(.long xb), (.double (FP.l2d wb)), (.ref b1)])) _
    refine XS.l2dS X3.here hx rfl (hb hby at_117) rfl (v := (FP.l2d xb)) rfl ?_
    refine XS.iloadN X3.here hx rfl (hb hby at_118) rfl ?_
    refine XS.i2l X3.here hx rfl (hb hby at_119) rfl ?_
    show Steps p.tables e below (T3.setTop (mkF m 120 #[.val (.int p0), .val (.int p1), .val (.int p2), .val (.int p3), .val (.int p4), .val (.int p5), .val (.long wa), .second, .val (.long wb), .second, .val (.int (1 : Int32)), .val (.int (1 : Int32)), .val (.long ra), .second, .val (.long rb), .second, .val (.ref b1), .unset, .unset, .unset, .unset, .unset, .unset] [(.long (p1.toInt64)), (.double (FP.l2d xb)), (.double (FP.l2d wb)), (.ref b1)])) _
    refine st16.trans ?_
    show Steps p.tables e below (T16.setTop (mkF m 123 #[.val (.int p0), .val (.int p1), .val (.int p2), .val (.int p3), .val (.int p4), .val (.int p5), .val (.long wa), .second, .val (.long wb), .second, .val (.int (1 : Int32)), .val (.int (1 : Int32)), .val (.long ra), .second, .val (.long rb), .second, .val (.ref b1), .unset, .unset, .unset, .unset, .unset, .unset] [])) _
    refine XS.lconst X16.here hx rfl (hb hby at_123) ?_
    refine XS.lstore X16.here hx rfl (hb hby at_124) rfl (l' := #[.val (.int p0), .val (.int p1), .val (.int p2), .val (.int p3), .val (.int p4), .val (.int p5), .val (.long wa), .second, .val (.long wb), .second, .val (.int (1 : Int32)), .val (.int (1 : Int32)), .val (.long ra), .second, .val (.long rb), .second, .val (.ref b1), .val (.long (0 : Int64)), .second, .unset, .unset, .unset, .unset]) rfl ?_
    refine XS.lconst X16.here hx rfl (hb hby at_126) ?_
    refine XS.lstore X16.here hx rfl (hb hby at_127) rfl (l' := #[.val (.int p0), .val (.int p1), .val (.int p2), .val (.int p3), .val (.int p4), .val (.int p5), .val (.long wa), .second, .val (.long wb), .second, .val (.int (1 : Int32)), .val (.int (1 : Int32)), .val (.long ra), .second, .val (.long rb), .second, .val (.ref b1), .val (.long (0 : Int64)), .second, .val (.long (0 : Int64)), .second, .unset, .unset]) rfl ?_
    refine XS.iload X16.here hx rfl (hb hby at_129) rfl ?_
    show Steps p.tables e below (T16.setTop (mkF m 131 #[.val (.int p0), .val (.int p1), .val (.int p2), .val (.int p3), .val (.int p4), .val (.int p5), .val (.long wa), .second, .val (.long wb), .second, .val (.int (1 : Int32)), .val (.int (1 : Int32)), .val (.long ra), .second, .val (.long rb), .second, .val (.ref b1), .val (.long (0 : Int64)), .second, .val (.long (0 : Int64)), .second, .unset, .unset] [(.int (1 : Int32))])) _
    refine XS.ifNo X16.here hx rfl (hb hby at_131) rfl ((if0 _ _).trans (feq (by decide : ¬ ((1 : Int32) = (0 : Int32)))).1) ?_
    refine XS.iloadN X16.here hx rfl (hb hby at_134) rfl ?_
    refine XS.ifYes X16.here hx rfl (pc0 := 135) (pc' := 155) rfl (hb hby at_135) rfl ((if0 _ _).trans (flt hc135).2.2.2) (by decide) (by decide) ?_
    refine XS.iload X16.here hx rfl (hb hby at_155) rfl ?_
    refine XS.ifNo X16.here hx rfl (hb hby at_157) rfl ((if0 _ _).trans (feq (by decide : ¬ ((1 : Int32) = (0 : Int32)))).1) ?_
    refine XS.iloadN X16.here hx rfl (hb hby at_160) rfl ?_
    show Steps p.tables e below (T16.setTop (mkF m 161 #[.val (.int p0), .val (.int p1), .val (.int p2), .val (.int p3), .val (.int p4), .val (.int p5), .val (.long wa), .second, .val (.long wb), .second, .val (.int (1 : Int32)), .val (.int (1 : Int32)), .val (.long ra), .second, .val (.long rb), .second, .val (.ref b1), .val (.long (0 : Int64)), .second, .val (.long (0 : Int64)), .second, .unset, .unset] [(.int p1)])) _
    refine XS.ifYes X16.here hx rfl (pc0 := 161) (pc' := 181) rfl (hb hby at_161) rfl ((if0 _ _).trans (flt hc161).2.2.2) (by decide) (by decide) ?_
    refine XS.aload X16.here hx rfl (hb hby at_181) rfl rfl ?_
    refine st29.trans ?_
    show Steps p.tables e below (T29.setTop (mkF m 186 #[.val (.int p0), .val (.int p1), .val (.int p2), .val (.int p3), .val (.int p4), .val (.int p5), .val (.long wa), .second, .val (.long wb), .second, .val (.int (1 : Int32)), .val (.int (1 : Int32)), .val (.long ra), .second, .val (.long rb), .second, .val (.ref b1), .val (.long (0 : Int64)), .second, .val (.long (0 : Int64)), .second, .unset, .unset] [(.double (9221120237041090560 : UInt64))])) _
    refine XS.dstore X29.here hx rfl (hb hby at_186) rfl (l' := #[.val (.int p0), .val (.int p1), .val (.int p2), .val (.int p3), .val (.int p4), .val (.int p5), .val (.long wa), .second, .val (.long wb), .second, .val (.int (1 : Int32)), .val (.int (1 : Int32)), .val (.long ra), .second, .val (.long rb), .second, .val (.ref b1), .val (.long (0 : Int64)), .second, .val (.long (0 : Int64)), .second, .val (.double (9221120237041090560 : UInt64)), .second]) rfl ?_
    refine XS.lload X29.here hx rfl (hb hby at_188) rfl ?_
    refine XS.lconst X29.here hx rfl (hb hby at_190) ?_
    show Steps p.tables e below (T29.setTop (mkF m 191 #[.val (.int p0), .val (.int p1), .val (.int p2), .val (.int p3), .val (.int p4), .val (.int p5), .val (.long wa), .second, .val (.long wb), .second, .val (.int (1 : Int32)), .val (.int (1 : Int32)), .val (.long ra), .second, .val (.long rb), .second, .val (.ref b1), .val (.long (0 : Int64)), .second, .val (.long (0 : Int64)), .second, .val (.double (9221120237041090560 : UInt64)), .second] [(.long (0 : Int64)), (.long (0 : Int64))])) _
    refine XS.lcmp X29.here hx rfl (hb hby at_191) rfl ?_
    show Steps p.tables e below (T29.setTop (mkF m 192 #[.val (.int p0), .val (.int p1), .val (.int p2), .val (.int p3), .val (.int p4), .val (.int p5), .val (.long wa), .second, .val (.long wb), .second, .val (.int (1 : Int32)), .val (.int (1 : Int32)), .val (.long ra), .second, .val (.long rb), .second, .val (.ref b1), .val (.long (0 : Int64)), .second, .val (.long (0 : Int64)), .second, .val (.double (9221120237041090560 : UInt64)), .second] [(.int (lcmpW (0 : Int64) (0 : Int64)))])) _
    rw [show (lcmpW (0 : Int64) (0 : Int64)) = (0 : Int32) by decide]
    show Steps p.tables e below (T29.setTop (mkF m 192 #[.val (.int p0), .val (.int p1), .val (.int p2), .val (.int p3), .val (.int p4), .val (.int p5), .val (.long wa), .second, .val (.long wb), .second, .val (.int (1 : Int32)), .val (.int (1 : Int32)), .val (.long ra), .second, .val (.long rb), .second, .val (.ref b1), .val (.long (0 : Int64)), .second, .val (.long (0 : Int64)), .second, .val (.double (9221120237041090560 : UInt64)), .second] [(.int (0 : Int32))])) _
    refine XS.ifNo X29.here hx rfl (hb hby at_192) rfl ((if0 _ _).trans (teq (by decide : (0 : Int32) = (0 : Int32))).2) ?_
    refine XS.dload X29.here hx rfl (hb hby at_195) rfl ?_
    refine XS.dload X29.here hx rfl (hb hby at_197) rfl ?_
    refine XS.dcmpS X29.here hx rfl (hb hby at_199) rfl (v := (-1 : Int32)) hd199 ?_
    show Steps p.tables e below (T29.setTop (mkF m 200 #[.val (.int p0), .val (.int p1), .val (.int p2), .val (.int p3), .val (.int p4), .val (.int p5), .val (.long wa), .second, .val (.long wb), .second, .val (.int (1 : Int32)), .val (.int (1 : Int32)), .val (.long ra), .second, .val (.long rb), .second, .val (.ref b1), .val (.long (0 : Int64)), .second, .val (.long (0 : Int64)), .second, .val (.double (9221120237041090560 : UInt64)), .second] [(.int (-1 : Int32))])) _
    refine XS.ifNo X29.here hx rfl (hb hby at_200) rfl ((if0 _ _).trans (feq (by decide : ¬ ((-1 : Int32) = (0 : Int32)))).1) ?_
    refine XS.iconst X29.here hx rfl (hb hby at_203) ?_
    refine XS.goto X29.here hx rfl (pc0 := 204) (pc' := 208) rfl (hb hby at_204) (by decide) (by decide) ?_
    exact retN X29 hx (t := .boolean) Bd.returns (by simp) (hb hby at_208) hr
  · show Q0 n0 _ T29.heap _
    rw [e29]
    exact ⟨rfl, N29⟩
open Jvm.Free.Fl in
theorem own_z (K : Nat) (h : 1 ≤ K) : Mag64 K (0 : UInt64) := by
  unfold Mag64
  show 0 % 9223372036854775808 < K * 4503599627370496
  omega
open Jvm.OwnFP Jvm.Free.Fl in
theorem own_add {sw on op w so sp ma mb mc mo mp ob pb w' so' sp' oa pa : UInt64} {W W0 : Int} {a b c d f : Nat} (hsw : Ra W 1 sw) (hw : Ra W0 1 w) (W1 : 1 ≤ W) (W2 : W ≤ 1024) (V1 : 0 ≤ W0) (V2 : W0 ≤ 1024) (Mon : Mag64 1066 on) (Mop : Mag64 1055 op)
    (Mso : Mag64 a so) (Msp : Mag64 b sp) (Mma : Mag64 c ma) (Mmb : Mag64 d mb) (Mmc : Mag64 f mc) (Mmo : Mag64 1081 mo) (Mmp : Mag64 1070 mp) (ha : 1078 ≤ a) (ha' : a ≤ 1080) (hb : 1067 ≤ b) (hb' : b ≤ 1069) (hc : 1158 ≤ c) (hc' : c ≤ 1160) (hd : 1136 ≤ d) (hd' : d ≤ 1138) (hf : 1147 ≤ f) (hf' : f ≤ 1149)
    (e1 : FP.dsub on mo = ob) (e2 : FP.dsub op mp = pb) (e3 : FP.dadd w sw = w') (e4 : FP.dadd so (FP.dmul sw on) = so') (e5 : FP.dadd sp (FP.dmul sw op) = sp') (e6 : FP.dsub on (FP.ddiv so' w') = oa) (e7 : FP.dsub op (FP.ddiv sp' w') = pa) :
    NoNaN64 (FP.dsub on mo) ∧ NoNaN64 (FP.dsub op mp) ∧ NoNaN64 (FP.dadd w sw) ∧ NoNaN64 (FP.dmul sw on) ∧ NoNaN64 (FP.dadd so (FP.dmul sw on)) ∧ NoNaN64 (FP.dmul sw op) ∧ NoNaN64 (FP.dadd sp (FP.dmul sw op)) ∧
    NoNaN64 (FP.ddiv so' w') ∧ NoNaN64 (FP.dsub on (FP.ddiv so' w')) ∧ NoNaN64 (FP.ddiv sp' w') ∧ NoNaN64 (FP.dsub op (FP.ddiv sp' w')) ∧
    NoNaN64 (FP.dmul sw ob) ∧ NoNaN64 (FP.dmul (FP.dmul sw ob) oa) ∧ NoNaN64 (FP.dadd ma (FP.dmul (FP.dmul sw ob) oa)) ∧ NoNaN64 (FP.dmul sw pb) ∧ NoNaN64 (FP.dmul (FP.dmul sw pb) pa) ∧ NoNaN64 (FP.dadd mb (FP.dmul (FP.dmul sw pb) pa)) ∧
    NoNaN64 (FP.dmul (FP.dmul sw ob) pa) ∧ NoNaN64 (FP.dadd mc (FP.dmul (FP.dmul sw ob) pa)) ∧
    Ra (W0 + W) 1 w' ∧ Mag64 (a + 2) so' ∧ Mag64 (b + 2) sp' ∧ Mag64 (c + 2) (FP.dadd ma (FP.dmul (FP.dmul sw ob) oa)) ∧ Mag64 (d + 2) (FP.dadd mb (FP.dmul (FP.dmul sw pb) pa)) ∧ Mag64 (f + 2) (FP.dadd mc (FP.dmul (FP.dmul sw ob) pa)) ∧ Mag64 (a + 3) (FP.ddiv so' w') ∧ Mag64 (b + 3) (FP.ddiv sp' w') := by
  have Msw : Mag64 1034 sw := hsw.mag (n := 10) (by decide) (by omega)
  have m1 : Mag64 1083 ob := e1 ▸ (dsub_mag (Mon.mono (K' := 1081) (by decide)) Mmo (by decide)).mono (by decide)
  have m2 : Mag64 1072 pb := e2 ▸ (dsub_mag (Mop.mono (K' := 1070) (by decide)) Mmp (by decide)).mono (by decide)
  have rw1 : Ra (W0 + W) 1 w' := e3 ▸ Ra.add (k := 0) hw hsw (by omega) rfl (by decide)
  have p1 : Mag64 1078 (FP.dmul sw on) := (dmul_mag Msw Mon (by decide) (by decide)).mono (by decide)
  have m4 : Mag64 (a + 2) so' := e4 ▸ dadd_mag Mso (p1.mono ha) (by omega)
  have p2 : Mag64 1067 (FP.dmul sw op) := (dmul_mag Msw Mop (by decide) (by decide)).mono (by decide)
  have m5 : Mag64 (b + 2) sp' := e5 ▸ dadd_mag Msp (p2.mono hb) (by omega)
  have bw := rw1.big (by omega)
  have d1 : Mag64 (a + 3) (FP.ddiv so' w') := (Jvm.RoadKit.ddiv_mag m4 bw (by omega) (by decide)).mono (by omega)
  have d2 : Mag64 (b + 3) (FP.ddiv sp' w') := (Jvm.RoadKit.ddiv_mag m5 bw (by omega) (by decide)).mono (by omega)
  have m6 : Mag64 1085 oa := e6 ▸ (dsub_mag (Mon.mono (K' := 1083) (by decide)) (d1.mono (K' := 1083) (by omega)) (by decide)).mono (by decide)
  have m7 : Mag64 1074 pa := e7 ▸ (dsub_mag (Mop.mono (K' := 1072) (by decide)) (d2.mono (K' := 1072) (by omega)) (by decide)).mono (by decide)
  have q1 : Mag64 1095 (FP.dmul sw ob) := (dmul_mag Msw m1 (by decide) (by decide)).mono (by decide)
  have q2 : Mag64 1158 (FP.dmul (FP.dmul sw ob) oa) := (dmul_mag q1 m6 (by decide) (by decide)).mono (by decide)
  have q3 := dadd_mag Mma (q2.mono hc) (by omega)
  have q4 : Mag64 1084 (FP.dmul sw pb) := (dmul_mag Msw m2 (by decide) (by decide)).mono (by decide)
  have q5 : Mag64 1136 (FP.dmul (FP.dmul sw pb) pa) := (dmul_mag q4 m7 (by decide) (by decide)).mono (by decide)
  have q6 := dadd_mag Mmb (q5.mono hd) (by omega)
  have q7 : Mag64 1147 (FP.dmul (FP.dmul sw ob) pa) := (dmul_mag q1 m7 (by decide) (by decide)).mono (by decide)
  have q8 := dadd_mag Mmc (q7.mono hf) (by omega)
  have nn : ∀ {K : Nat} {x : UInt64}, Mag64 K x → K ≤ 2000 → NoNaN64 x := fun h k => (h.fin (by omega)).noNaN
  subst e3 e4 e5
  subst e1 e2 e6 e7
  exact ⟨nn m1 (by decide), nn m2 (by decide), rw1.nn, nn p1 (by decide), nn m4 (by omega), nn p2 (by decide), nn m5 (by omega), nn d1 (by omega), nn m6 (by decide), nn d2 (by omega), nn m7 (by decide), nn q1 (by decide), nn q2 (by decide), nn q3 (by omega), nn q4 (by decide), nn q5 (by decide), nn q6 (by omega), nn q7 (by decide), nn q8 (by omega), rw1, m4, m5, q3, q6, q8, d1, d2⟩
open Jvm.OwnFP Jvm.Free.Fl in
theorem own_ratio {sw on op pw wr : UInt64} {W P N Q O : Int} (hsw : Ra W 1 sw) (hpw : Ra P 1 pw) (hwr : Ra N 1 wr) (hon : Ra (Q * O) 1 on) (hop : Ra O 1 op) (W1 : 1 ≤ W) (W2 : W ≤ 1024) (P1 : 0 ≤ P) (P2 : P ≤ 1024) (N1 : -1047552 ≤ N) (N2 : N ≤ 1047552) (O1 : 0 < O) (Q1 : -1024 < Q) (Q2 : Q < 1024) :
    NoNaN64 (FP.dadd pw sw) ∧ NoNaN64 (FP.ddiv on op) ∧ NoNaN64 (FP.dmul sw (FP.ddiv on op)) ∧ NoNaN64 (FP.dadd wr (FP.dmul sw (FP.ddiv on op))) ∧ Ra (P + W) 1 (FP.dadd pw sw) ∧ Ra (N + W * Q) 1 (FP.dadd wr (FP.dmul sw (FP.ddiv on op))) ∧ (W * Q).natAbs ≤ 1047552 := by
  have hm : (W * Q).natAbs ≤ 1024 * 1023 := by rw [Int.natAbs_mul]; exact Nat.mul_le_mul (by omega) (by omega)
  have a1 := Ra.add (k := 0) hpw hsw (by omega) rfl (by decide)
  have a2 : Ra Q 1 (FP.ddiv on op) := Ra.div (k := 0) hon hop (by decide) (by decide) (by omega) (by omega) rfl (by decide) (by show Q * O * 1 * 1 = Q * (O * 1); rw [Int.mul_one, Int.mul_one, Int.mul_one])
  have a3 : Ra (W * Q) 1 (FP.dmul sw (FP.ddiv on op)) := Ra.mul (k := 0) hsw a2 (by omega) rfl (by decide)
  have a4 := Ra.add (k := 0) hwr a3 (by omega) rfl (by decide)
  exact ⟨a1.nn, a2.nn, a3.nn, a4.nn, a1, a4, hm⟩
open Jvm.OwnFP Jvm.Free.Fl in
theorem own_end {x y u v : UInt64} {N P : Int} (hx : Ra N 1 x) (hy : Ra P 1 y) (hu : Ra N 1 u) (hv : Ra P 1 v) (hP : 0 < P) : NoNaN64 (FP.ddiv x y) ∧ NoNaN64 (FP.ddiv u v) ∧ Jvm.Op.cmpValue (FP.dcmp (FP.ddiv x y) (FP.ddiv u v)) .l = (0 : Int32) ∧ Jvm.Op.cmpValue (FP.dcmp y (0 : UInt64)) .l = (1 : Int32) := by
  have e1 := zv_eq hx hu (by decide) rfl
  have e2 := zv_eq hy hv (by decide) rfl
  have p : 0 < zv y := by
    have := zv_lt ra_zero hy (by decide) hP
    rwa [show zv 0 = 0 from Jvm.FP.Core.zval64_zero] at this
  have p' : 0 < zv v := by rw [← e2]; exact p
  have nz : ¬ Jvm.FP.Core.DZero y := fun q => Int.ne_of_gt p (by unfold zv; exact Jvm.FP.Core.DZero.zval q)
  have nz' : ¬ Jvm.FP.Core.DZero v := fun q => Int.ne_of_gt p' (by unfold zv; exact Jvm.FP.Core.DZero.zval q)
  have n1 : NoNaN64 (FP.ddiv x y) := noNaN64_no.mpr (Jvm.FP.Core.ddiv_out hx.1.notNaN hy.1 nz)
  have n2 : NoNaN64 (FP.ddiv u v) := noNaN64_no.mpr (Jvm.FP.Core.ddiv_out hu.1.notNaN hv.1 nz')
  exact ⟨n1, n2, cv_eq (nan_of n1) (nan_of n2) (div_alike hx.1 hy.1 hu.1 hv.1 (Int.ne_of_gt p) (Int.ne_of_gt p') (by rw [e1, e2])) _, hy.gt ra_zero (by decide) hP _⟩
theorem own_wt (p : Int32) : ∃ W : Int, ((p &&& (1023 : Int32)) + (1 : Int32)).toInt64.toInt = W ∧ 1 ≤ W ∧ W ≤ 1024 := by
  refine ⟨_, rfl, ?_⟩
  have a := c_and p (1023 : Int32) (by decide)
  have b := c_iadd (p &&& (1023 : Int32)) (1 : Int32)
  rw [show (1023 : Int32).toInt = 1023 by decide] at a
  rw [show (1 : Int32).toInt = 1 by decide] at b
  have c := rng32 ((p &&& (1023 : Int32)) + (1 : Int32))
  rw [c_i2l]
  omega
theorem own_rt (p : Int32) : ∃ Q : Int, (p % (1024 : Int32)).toInt64.toInt = Q ∧ -1024 < Q ∧ Q < 1024 := by
  refine ⟨_, rfl, ?_⟩
  have a := c_irem p (1024 : Int32) 1024 (by decide)
  rw [c_i2l]
  rcases Int.lt_or_le p.toInt 0 with h | h
  · have := a.2 h; omega
  · have := a.1 h; omega
theorem own_law (l : Launch) (Z : State) (a0 : Array Value) (hw : ∀ d ∈ tables_1, d.before a0 Z = true) (ws : List Jvm.Cond) (p0 : Int32) (p1 : Int32) (p2 : Int32) (p3 : Int32) (p4 : Int32) (p5 : Int32) (h0 : Heap) (n0 : Nat) (Z0 : n0 ≤ h0.size) :
    MetFree l x (head1 (Jvm.Cond.code x code maxLocals ret :: ws) room_1) (fun a U => a = #[(.int p0), (.int p1), (.int p2), (.int p3), (.int p4), (.int p5)] ∧ Z.Warmed39 U.vm ∧ U.heap = h0) (fun _ _ _ _ _ => True) (fun _ U o U' => ∃ v L, o = .returned v ∧ Q0 n0 v U'.heap L ∧ FrameEnd U o U' L room_1.cells room_1.slots) := by
  have z64 : (0 : Int64).toInt = 0 := by decide +kernel
  have z32 : (0 : Int32).toInt = 0 := by decide
  obtain ⟨wa, e_wa⟩ : ∃ z, ((p4 &&& (1023 : Int32)) + (1 : Int32)).toInt64 = z := ⟨_, rfl⟩
  obtain ⟨ra, e_ra⟩ : ∃ z, (p2 % (1024 : Int32)).toInt64 = z := ⟨_, rfl⟩
  obtain ⟨xa, e_xa⟩ : ∃ z, ra * p0.toInt64 = z := ⟨_, rfl⟩
  obtain ⟨Wa, hWa, w1_wa, w2_wa⟩ := own_wt p4
  obtain ⟨Qa, hQa, q1_xa, q2_xa⟩ := own_rt p2
  rw [e_wa] at hWa; rw [e_ra] at hQa
  have rga := rng32 p0
  have bXa : (Qa * p0.toInt).natAbs ≤ 1023 * 2147483648 := by rw [Int.natAbs_mul]; exact Nat.mul_le_mul (by omega) (by omega)
  have hXa : xa.toInt = Qa * p0.toInt := by rw [← e_xa]; exact Jvm.OwnFP.lmul_of hQa (c_i2l _) (by omega) (by omega)
  have rS_wa : Jvm.OwnFP.Ra Wa 1 (FP.l2d wa) := (Jvm.OwnFP.Ra.l2d (by omega)).same hWa
  have rX_xa : Jvm.OwnFP.Ra (Qa * p0.toInt) 1 (FP.l2d xa) := (Jvm.OwnFP.Ra.l2d (by omega)).same hXa
  have rO_0 : Jvm.OwnFP.Ra p0.toInt 1 (FP.l2d p0.toInt64) := (Jvm.OwnFP.Ra.l2d (by rw [c_i2l]; omega)).same (c_i2l _)
  have mX_xa : Jvm.Free.Fl.Mag64 1066 (FP.l2d xa) := rX_xa.mag (n := 42) (by decide) (by omega)
  have mO_0 : Jvm.Free.Fl.Mag64 1055 (FP.l2d p0.toInt64) := rO_0.mag (n := 31) (by decide) (by omega)
  obtain ⟨wb, e_wb⟩ : ∃ z, ((p5 &&& (1023 : Int32)) + (1 : Int32)).toInt64 = z := ⟨_, rfl⟩
  obtain ⟨rb, e_rb⟩ : ∃ z, (p3 % (1024 : Int32)).toInt64 = z := ⟨_, rfl⟩
  obtain ⟨xb, e_xb⟩ : ∃ z, rb * p1.toInt64 = z := ⟨_, rfl⟩
  obtain ⟨Wb, hWb, w1_wb, w2_wb⟩ := own_wt p5
  obtain ⟨Qb, hQb, q1_xb, q2_xb⟩ := own_rt p3
  rw [e_wb] at hWb; rw [e_rb] at hQb
  have rgb := rng32 p1
  have bXb : (Qb * p1.toInt).natAbs ≤ 1023 * 2147483648 := by rw [Int.natAbs_mul]; exact Nat.mul_le_mul (by omega) (by omega)
  have hXb : xb.toInt = Qb * p1.toInt := by rw [← e_xb]; exact Jvm.OwnFP.lmul_of hQb (c_i2l _) (by omega) (by omega)
  have rS_wb : Jvm.OwnFP.Ra Wb 1 (FP.l2d wb) := (Jvm.OwnFP.Ra.l2d (by omega)).same hWb
  have rX_xb : Jvm.OwnFP.Ra (Qb * p1.toInt) 1 (FP.l2d xb) := (Jvm.OwnFP.Ra.l2d (by omega)).same hXb
  have rO_1 : Jvm.OwnFP.Ra p1.toInt 1 (FP.l2d p1.toInt64) := (Jvm.OwnFP.Ra.l2d (by rw [c_i2l]; omega)).same (c_i2l _)
  have mX_xb : Jvm.Free.Fl.Mag64 1066 (FP.l2d xb) := rX_xb.mag (n := 42) (by decide) (by omega)
  have mO_1 : Jvm.Free.Fl.Mag64 1055 (FP.l2d p1.toInt64) := rO_1.mag (n := 31) (by decide) (by omega)
  have cases : ∀ (u : Prop) (o : Int32), u ∨ (¬ u ∧ (0 : Int32) < o ∧ 0 < o.toInt) ∨ (¬ u ∧ ¬ (0 : Int32) < o ∧ ¬ 0 < o.toInt) := fun u o => by
    by_cases h : u
    · exact Or.inl h
    · by_cases k : (0 : Int32) < o
      · exact Or.inr (Or.inl ⟨h, k, by have := Int32.lt_iff_toInt_lt.mp k; rwa [z32] at this⟩)
      · exact Or.inr (Or.inr ⟨h, k, fun q => k (Int32.lt_iff_toInt_lt.mpr (by rw [z32]; exact q))⟩)
  rcases cases (((p4.toUInt32 >>> ((10 : Int32) &&& 31).toUInt32).toInt32 &&& (3 : Int32)) = (0 : Int32)) p0 with uA | ⟨uA, sA, hO0⟩ | ⟨uA, sA, hO0⟩ <;> rcases cases (((p5.toUInt32 >>> ((10 : Int32) &&& 31).toUInt32).toInt32 &&& (3 : Int32)) = (0 : Int32)) p1 with uB | ⟨uB, sB, hO1⟩ | ⟨uB, sB, hO1⟩
  · skip
    exact rm0_oo l Z a0 hw ws p0 p1 p2 p3 p4 p5 (wa := wa) (wb := wb) (ra := ra) (rb := rb) h0 n0 Z0 (hv8 := e_wa) (hv19 := e_wb) (hc29 := uA) (hc46 := uB) (hv61 := e_ra) (hv69 := e_rb) (hd5_183 := Jvm.OwnFP.ra_zero.eq Jvm.OwnFP.ra_zero (by decide) rfl _) (hd199 := by decide +kernel)
  · skip
    obtain ⟨ob1, e_ob1⟩ : ∃ z, FP.dsub (FP.l2d xb) (0 : UInt64) = z := ⟨_, rfl⟩
    obtain ⟨pb1, e_pb1⟩ : ∃ z, FP.dsub (FP.l2d p1.toInt64) (0 : UInt64) = z := ⟨_, rfl⟩
    obtain ⟨w1, e_w1⟩ : ∃ z, FP.dadd (0 : UInt64) (FP.l2d wb) = z := ⟨_, rfl⟩
    obtain ⟨so1, e_so1⟩ : ∃ z, FP.dadd (0 : UInt64) (FP.dmul (FP.l2d wb) (FP.l2d xb)) = z := ⟨_, rfl⟩
    obtain ⟨sp1, e_sp1⟩ : ∃ z, FP.dadd (0 : UInt64) (FP.dmul (FP.l2d wb) (FP.l2d p1.toInt64)) = z := ⟨_, rfl⟩
    obtain ⟨oa1, e_oa1⟩ : ∃ z, FP.dsub (FP.l2d xb) (FP.ddiv so1 w1) = z := ⟨_, rfl⟩
    obtain ⟨pa1, e_pa1⟩ : ∃ z, FP.dsub (FP.l2d p1.toInt64) (FP.ddiv sp1 w1) = z := ⟨_, rfl⟩
    obtain ⟨ma1, e_ma1⟩ : ∃ z, FP.dadd (0 : UInt64) (FP.dmul (FP.dmul (FP.l2d wb) ob1) oa1) = z := ⟨_, rfl⟩
    obtain ⟨mb1, e_mb1⟩ : ∃ z, FP.dadd (0 : UInt64) (FP.dmul (FP.dmul (FP.l2d wb) pb1) pa1) = z := ⟨_, rfl⟩
    obtain ⟨mc1, e_mc1⟩ : ∃ z, FP.dadd (0 : UInt64) (FP.dmul (FP.dmul (FP.l2d wb) ob1) pa1) = z := ⟨_, rfl⟩
    obtain ⟨n5_1, n15_1, n34_1, n45_1, n46_1, n59_1, n60_1, n21_66_1, n69_1, n21_76_1, n79_1, n90_1, n93_1, n94_1, n106_1, n109_1, n110_1, n125_1, n126_1, R_w1, M_so1, M_sp1, M_ma1, M_mb1, M_mc1, M_mo1, M_mp1⟩ := own_add (rS_wb) (Jvm.OwnFP.ra_zero) (w1_wb) (w2_wb) (by decide) (by decide) (mX_xb) (mO_1) (own_z 1078 (by decide)) (own_z 1067 (by decide)) (own_z 1158 (by decide)) (own_z 1136 (by decide)) (own_z 1147 (by decide)) (own_z 1081 (by decide)) (own_z 1070 (by decide)) (by decide) (by decide) (by decide) (by decide) (by decide) (by decide) (by decide) (by decide) (by decide) (by decide) e_ob1 e_pb1 e_w1 e_so1 e_sp1 e_oa1 e_pa1
    obtain ⟨pw1, e_pw1⟩ : ∃ z, FP.dadd (0 : UInt64) (FP.l2d wb) = z := ⟨_, rfl⟩
    obtain ⟨wr1, e_wr1⟩ : ∃ z, FP.dadd (0 : UInt64) (FP.dmul (FP.l2d wb) (FP.ddiv (FP.l2d xb) (FP.l2d p1.toInt64))) = z := ⟨_, rfl⟩
    obtain ⟨n143_1, n157_1, n158_1, n159_1, R_p1, R_r1, B_1⟩ := own_ratio (rS_wb) (Jvm.OwnFP.ra_zero) (Jvm.OwnFP.ra_zero) (rX_xb) (rO_1) w1_wb w2_wb (by omega) (by omega) (by omega) (by omega) hO1 q1_xb q2_xb
    rw [e_pw1] at R_p1; rw [e_wr1] at R_r1
    obtain ⟨pB, e_pB⟩ : ∃ z, (0 : Int64) + wb = z := ⟨_, rfl⟩
    obtain ⟨nB, e_nB⟩ : ∃ z, (0 : Int64) + (wb * rb) = z := ⟨_, rfl⟩
    have bmB : (Wb * Qb).natAbs ≤ 1024 * 1023 := by rw [Int.natAbs_mul]; exact Nat.mul_le_mul (by omega) (by omega)
    have kmB : (wb * rb).toInt = Wb * Qb := Jvm.OwnFP.lmul_of hWb hQb (by omega) (by omega)
    have kpB : pB.toInt = 0 + Wb := by rw [← e_pB]; exact Jvm.OwnFP.ladd_of z64 hWb (by omega) (by omega)
    have knB : nB.toInt = 0 + Wb * Qb := by rw [← e_nB]; exact Jvm.OwnFP.ladd_of z64 kmB (by omega) (by omega)
    obtain ⟨y1, y2, y3, y4⟩ := own_end R_r1 R_p1 ((Jvm.OwnFP.Ra.l2d (a := nB) (by rw [knB]; omega)).same knB) ((Jvm.OwnFP.Ra.l2d (a := pB) (by rw [kpB]; omega)).same kpB) (by omega)
    exact rm0_op l Z a0 hw ws p0 p1 p2 p3 p4 p5 (ob1 := ob1) (pb1 := pb1) (w1 := w1) (so1 := so1) (sp1 := sp1) (oa1 := oa1) (pa1 := pa1) (ma1 := ma1) (mb1 := mb1) (mc1 := mc1) (pw1 := pw1) (wr1 := wr1) (wa := wa) (wb := wb) (ra := ra) (rb := rb) (xb := xb) (pB := pB) (nB := nB) h0 n0 Z0 (hv8 := e_wa) (hv19 := e_wb) (hc29 := uA) (hc46 := uB) (hv61 := e_ra) (hv69 := e_rb) (hv116 := e_xb) (nn5_120 := n5_1) (hq5_120 := e_ob1) (nn15_120 := n15_1) (hq15_120 := e_pb1) (nn34_120 := n34_1) (hq34_120 := e_w1) (nn45_120 := n45_1) (nn46_120 := n46_1) (hq46_120 := e_so1) (nn59_120 := n59_1) (nn60_120 := n60_1) (hq60_120 := e_sp1) (nn21_66_120 := n21_66_1) (nn69_120 := n69_1) (hq69_120 := e_oa1) (nn21_76_120 := n21_76_1) (nn79_120 := n79_1) (hq79_120 := e_pa1) (nn90_120 := n90_1) (nn93_120 := n93_1) (nn94_120 := n94_1) (hq94_120 := e_ma1) (nn106_120 := n106_1) (nn109_120 := n109_1) (nn110_120 := n110_1) (hq110_120 := e_mb1) (nn122_120 := n90_1) (nn125_120 := n125_1) (nn126_120 := n126_1) (hq126_120 := e_mc1) (hc134_120 := (lw_gt _ _).mpr (Int64.lt_iff_toInt_lt.mpr (by rw [c_i2l, z64]; exact hO1))) (nn143_120 := n143_1) (hq143_120 := e_pw1) (nn157_120 := n157_1) (nn158_120 := n158_1) (nn159_120 := n159_1) (hq159_120 := e_wr1) (hc161 := sB) (hv168 := e_pB) (hv178 := e_nB) (hd5_183 := y4) (nn23_183 := y1) (hc192 := fun q => by have := (lw_eq _ _).mp q; rw [← Int64.toInt_inj, kpB, z64] at this; omega) (nn217 := y2) (hd218 := y3)
  · skip
    obtain ⟨ob1, e_ob1⟩ : ∃ z, FP.dsub (FP.l2d xb) (0 : UInt64) = z := ⟨_, rfl⟩
    obtain ⟨pb1, e_pb1⟩ : ∃ z, FP.dsub (FP.l2d p1.toInt64) (0 : UInt64) = z := ⟨_, rfl⟩
    obtain ⟨w1, e_w1⟩ : ∃ z, FP.dadd (0 : UInt64) (FP.l2d wb) = z := ⟨_, rfl⟩
    obtain ⟨so1, e_so1⟩ : ∃ z, FP.dadd (0 : UInt64) (FP.dmul (FP.l2d wb) (FP.l2d xb)) = z := ⟨_, rfl⟩
    obtain ⟨sp1, e_sp1⟩ : ∃ z, FP.dadd (0 : UInt64) (FP.dmul (FP.l2d wb) (FP.l2d p1.toInt64)) = z := ⟨_, rfl⟩
    obtain ⟨oa1, e_oa1⟩ : ∃ z, FP.dsub (FP.l2d xb) (FP.ddiv so1 w1) = z := ⟨_, rfl⟩
    obtain ⟨pa1, e_pa1⟩ : ∃ z, FP.dsub (FP.l2d p1.toInt64) (FP.ddiv sp1 w1) = z := ⟨_, rfl⟩
    obtain ⟨ma1, e_ma1⟩ : ∃ z, FP.dadd (0 : UInt64) (FP.dmul (FP.dmul (FP.l2d wb) ob1) oa1) = z := ⟨_, rfl⟩
    obtain ⟨mb1, e_mb1⟩ : ∃ z, FP.dadd (0 : UInt64) (FP.dmul (FP.dmul (FP.l2d wb) pb1) pa1) = z := ⟨_, rfl⟩
    obtain ⟨mc1, e_mc1⟩ : ∃ z, FP.dadd (0 : UInt64) (FP.dmul (FP.dmul (FP.l2d wb) ob1) pa1) = z := ⟨_, rfl⟩
    obtain ⟨n5_1, n15_1, n34_1, n45_1, n46_1, n59_1, n60_1, n21_66_1, n69_1, n21_76_1, n79_1, n90_1, n93_1, n94_1, n106_1, n109_1, n110_1, n125_1, n126_1, R_w1, M_so1, M_sp1, M_ma1, M_mb1, M_mc1, M_mo1, M_mp1⟩ := own_add (rS_wb) (Jvm.OwnFP.ra_zero) (w1_wb) (w2_wb) (by decide) (by decide) (mX_xb) (mO_1) (own_z 1078 (by decide)) (own_z 1067 (by decide)) (own_z 1158 (by decide)) (own_z 1136 (by decide)) (own_z 1147 (by decide)) (own_z 1081 (by decide)) (own_z 1070 (by decide)) (by decide) (by decide) (by decide) (by decide) (by decide) (by decide) (by decide) (by decide) (by decide) (by decide) e_ob1 e_pb1 e_w1 e_so1 e_sp1 e_oa1 e_pa1
    obtain ⟨zw1, e_zw1⟩ : ∃ z, FP.dadd (0 : UInt64) (FP.l2d wb) = z := ⟨_, rfl⟩
    have R_z1 := Jvm.OwnFP.Ra.add (k := 0) (Jvm.OwnFP.ra_zero) (rS_wb) (by omega) rfl (by decide)
    have n172_1 := R_z1.nn
    rw [e_zw1] at R_z1
    exact rm0_oz l Z a0 hw ws p0 p1 p2 p3 p4 p5 (ob1 := ob1) (pb1 := pb1) (w1 := w1) (so1 := so1) (sp1 := sp1) (oa1 := oa1) (pa1 := pa1) (ma1 := ma1) (mb1 := mb1) (mc1 := mc1) (zw1 := zw1) (wa := wa) (wb := wb) (ra := ra) (rb := rb) (xb := xb) h0 n0 Z0 (hv8 := e_wa) (hv19 := e_wb) (hc29 := uA) (hc46 := uB) (hv61 := e_ra) (hv69 := e_rb) (hv116 := e_xb) (nn5_120 := n5_1) (hq5_120 := e_ob1) (nn15_120 := n15_1) (hq15_120 := e_pb1) (nn34_120 := n34_1) (hq34_120 := e_w1) (nn45_120 := n45_1) (nn46_120 := n46_1) (hq46_120 := e_so1) (nn59_120 := n59_1) (nn60_120 := n60_1) (hq60_120 := e_sp1) (nn21_66_120 := n21_66_1) (nn69_120 := n69_1) (hq69_120 := e_oa1) (nn21_76_120 := n21_76_1) (nn79_120 := n79_1) (hq79_120 := e_pa1) (nn90_120 := n90_1) (nn93_120 := n93_1) (nn94_120 := n94_1) (hq94_120 := e_ma1) (nn106_120 := n106_1) (nn109_120 := n109_1) (nn110_120 := n110_1) (hq110_120 := e_mb1) (nn122_120 := n90_1) (nn125_120 := n125_1) (nn126_120 := n126_1) (hq126_120 := e_mc1) (hc134_120 := fun q => by have := Int64.lt_iff_toInt_lt.mp ((lw_gt _ _).mp q); rw [c_i2l, z64] at this; omega) (nn172_120 := n172_1) (hq172_120 := e_zw1) (hc161 := sB) (hd5_183 := Jvm.OwnFP.ra_zero.eq Jvm.OwnFP.ra_zero (by decide) rfl _) (hd199 := by decide +kernel)
  · skip
    obtain ⟨ob1, e_ob1⟩ : ∃ z, FP.dsub (FP.l2d xa) (0 : UInt64) = z := ⟨_, rfl⟩
    obtain ⟨pb1, e_pb1⟩ : ∃ z, FP.dsub (FP.l2d p0.toInt64) (0 : UInt64) = z := ⟨_, rfl⟩
    obtain ⟨w1, e_w1⟩ : ∃ z, FP.dadd (0 : UInt64) (FP.l2d wa) = z := ⟨_, rfl⟩
    obtain ⟨so1, e_so1⟩ : ∃ z, FP.dadd (0 : UInt64) (FP.dmul (FP.l2d wa) (FP.l2d xa)) = z := ⟨_, rfl⟩
    obtain ⟨sp1, e_sp1⟩ : ∃ z, FP.dadd (0 : UInt64) (FP.dmul (FP.l2d wa) (FP.l2d p0.toInt64)) = z := ⟨_, rfl⟩
    obtain ⟨oa1, e_oa1⟩ : ∃ z, FP.dsub (FP.l2d xa) (FP.ddiv so1 w1) = z := ⟨_, rfl⟩
    obtain ⟨pa1, e_pa1⟩ : ∃ z, FP.dsub (FP.l2d p0.toInt64) (FP.ddiv sp1 w1) = z := ⟨_, rfl⟩
    obtain ⟨ma1, e_ma1⟩ : ∃ z, FP.dadd (0 : UInt64) (FP.dmul (FP.dmul (FP.l2d wa) ob1) oa1) = z := ⟨_, rfl⟩
    obtain ⟨mb1, e_mb1⟩ : ∃ z, FP.dadd (0 : UInt64) (FP.dmul (FP.dmul (FP.l2d wa) pb1) pa1) = z := ⟨_, rfl⟩
    obtain ⟨mc1, e_mc1⟩ : ∃ z, FP.dadd (0 : UInt64) (FP.dmul (FP.dmul (FP.l2d wa) ob1) pa1) = z := ⟨_, rfl⟩
    obtain ⟨n5_1, n15_1, n34_1, n45_1, n46_1, n59_1, n60_1, n21_66_1, n69_1, n21_76_1, n79_1, n90_1, n93_1, n94_1, n106_1, n109_1, n110_1, n125_1, n126_1, R_w1, M_so1, M_sp1, M_ma1, M_mb1, M_mc1, M_mo1, M_mp1⟩ := own_add (rS_wa) (Jvm.OwnFP.ra_zero) (w1_wa) (w2_wa) (by decide) (by decide) (mX_xa) (mO_0) (own_z 1078 (by decide)) (own_z 1067 (by decide)) (own_z 1158 (by decide)) (own_z 1136 (by decide)) (own_z 1147 (by decide)) (own_z 1081 (by decide)) (own_z 1070 (by decide)) (by decide) (by decide) (by decide) (by decide) (by decide) (by decide) (by decide) (by decide) (by decide) (by decide) e_ob1 e_pb1 e_w1 e_so1 e_sp1 e_oa1 e_pa1
    obtain ⟨pw1, e_pw1⟩ : ∃ z, FP.dadd (0 : UInt64) (FP.l2d wa) = z := ⟨_, rfl⟩
    obtain ⟨wr1, e_wr1⟩ : ∃ z, FP.dadd (0 : UInt64) (FP.dmul (FP.l2d wa) (FP.ddiv (FP.l2d xa) (FP.l2d p0.toInt64))) = z := ⟨_, rfl⟩
    obtain ⟨n143_1, n157_1, n158_1, n159_1, R_p1, R_r1, B_1⟩ := own_ratio (rS_wa) (Jvm.OwnFP.ra_zero) (Jvm.OwnFP.ra_zero) (rX_xa) (rO_0) w1_wa w2_wa (by omega) (by omega) (by omega) (by omega) hO0 q1_xa q2_xa
    rw [e_pw1] at R_p1; rw [e_wr1] at R_r1
    obtain ⟨pA, e_pA⟩ : ∃ z, (0 : Int64) + wa = z := ⟨_, rfl⟩
    obtain ⟨nA, e_nA⟩ : ∃ z, (0 : Int64) + (wa * ra) = z := ⟨_, rfl⟩
    have bmA : (Wa * Qa).natAbs ≤ 1024 * 1023 := by rw [Int.natAbs_mul]; exact Nat.mul_le_mul (by omega) (by omega)
    have kmA : (wa * ra).toInt = Wa * Qa := Jvm.OwnFP.lmul_of hWa hQa (by omega) (by omega)
    have kpA : pA.toInt = 0 + Wa := by rw [← e_pA]; exact Jvm.OwnFP.ladd_of z64 hWa (by omega) (by omega)
    have knA : nA.toInt = 0 + Wa * Qa := by rw [← e_nA]; exact Jvm.OwnFP.ladd_of z64 kmA (by omega) (by omega)
    obtain ⟨y1, y2, y3, y4⟩ := own_end R_r1 R_p1 ((Jvm.OwnFP.Ra.l2d (a := nA) (by rw [knA]; omega)).same knA) ((Jvm.OwnFP.Ra.l2d (a := pA) (by rw [kpA]; omega)).same kpA) (by omega)
    exact rm0_po l Z a0 hw ws p0 p1 p2 p3 p4 p5 (ob1 := ob1) (pb1 := pb1) (w1 := w1) (so1 := so1) (sp1 := sp1) (oa1 := oa1) (pa1 := pa1) (ma1 := ma1) (mb1 := mb1) (mc1 := mc1) (pw1 := pw1) (wr1 := wr1) (wa := wa) (wb := wb) (ra := ra) (rb := rb) (xa := xa) (pA := pA) (nA := nA) h0 n0 Z0 (hv8 := e_wa) (hv19 := e_wb) (hc29 := uA) (hc46 := uB) (hv61 := e_ra) (hv69 := e_rb) (hv95 := e_xa) (nn5_99 := n5_1) (hq5_99 := e_ob1) (nn15_99 := n15_1) (hq15_99 := e_pb1) (nn34_99 := n34_1) (hq34_99 := e_w1) (nn45_99 := n45_1) (nn46_99 := n46_1) (hq46_99 := e_so1) (nn59_99 := n59_1) (nn60_99 := n60_1) (hq60_99 := e_sp1) (nn21_66_99 := n21_66_1) (nn69_99 := n69_1) (hq69_99 := e_oa1) (nn21_76_99 := n21_76_1) (nn79_99 := n79_1) (hq79_99 := e_pa1) (nn90_99 := n90_1) (nn93_99 := n93_1) (nn94_99 := n94_1) (hq94_99 := e_ma1) (nn106_99 := n106_1) (nn109_99 := n109_1) (nn110_99 := n110_1) (hq110_99 := e_mb1) (nn122_99 := n90_1) (nn125_99 := n125_1) (nn126_99 := n126_1) (hq126_99 := e_mc1) (hc134_99 := (lw_gt _ _).mpr (Int64.lt_iff_toInt_lt.mpr (by rw [c_i2l, z64]; exact hO0))) (nn143_99 := n143_1) (hq143_99 := e_pw1) (nn157_99 := n157_1) (nn158_99 := n158_1) (nn159_99 := n159_1) (hq159_99 := e_wr1) (hc135 := sA) (hv142 := e_pA) (hv152 := e_nA) (hd5_183 := y4) (nn23_183 := y1) (hc192 := fun q => by have := (lw_eq _ _).mp q; rw [← Int64.toInt_inj, kpA, z64] at this; omega) (nn217 := y2) (hd218 := y3)
  · skip
    obtain ⟨ob1, e_ob1⟩ : ∃ z, FP.dsub (FP.l2d xa) (0 : UInt64) = z := ⟨_, rfl⟩
    obtain ⟨pb1, e_pb1⟩ : ∃ z, FP.dsub (FP.l2d p0.toInt64) (0 : UInt64) = z := ⟨_, rfl⟩
    obtain ⟨w1, e_w1⟩ : ∃ z, FP.dadd (0 : UInt64) (FP.l2d wa) = z := ⟨_, rfl⟩
    obtain ⟨so1, e_so1⟩ : ∃ z, FP.dadd (0 : UInt64) (FP.dmul (FP.l2d wa) (FP.l2d xa)) = z := ⟨_, rfl⟩
    obtain ⟨sp1, e_sp1⟩ : ∃ z, FP.dadd (0 : UInt64) (FP.dmul (FP.l2d wa) (FP.l2d p0.toInt64)) = z := ⟨_, rfl⟩
    obtain ⟨oa1, e_oa1⟩ : ∃ z, FP.dsub (FP.l2d xa) (FP.ddiv so1 w1) = z := ⟨_, rfl⟩
    obtain ⟨pa1, e_pa1⟩ : ∃ z, FP.dsub (FP.l2d p0.toInt64) (FP.ddiv sp1 w1) = z := ⟨_, rfl⟩
    obtain ⟨ma1, e_ma1⟩ : ∃ z, FP.dadd (0 : UInt64) (FP.dmul (FP.dmul (FP.l2d wa) ob1) oa1) = z := ⟨_, rfl⟩
    obtain ⟨mb1, e_mb1⟩ : ∃ z, FP.dadd (0 : UInt64) (FP.dmul (FP.dmul (FP.l2d wa) pb1) pa1) = z := ⟨_, rfl⟩
    obtain ⟨mc1, e_mc1⟩ : ∃ z, FP.dadd (0 : UInt64) (FP.dmul (FP.dmul (FP.l2d wa) ob1) pa1) = z := ⟨_, rfl⟩
    obtain ⟨n5_1, n15_1, n34_1, n45_1, n46_1, n59_1, n60_1, n21_66_1, n69_1, n21_76_1, n79_1, n90_1, n93_1, n94_1, n106_1, n109_1, n110_1, n125_1, n126_1, R_w1, M_so1, M_sp1, M_ma1, M_mb1, M_mc1, M_mo1, M_mp1⟩ := own_add (rS_wa) (Jvm.OwnFP.ra_zero) (w1_wa) (w2_wa) (by decide) (by decide) (mX_xa) (mO_0) (own_z 1078 (by decide)) (own_z 1067 (by decide)) (own_z 1158 (by decide)) (own_z 1136 (by decide)) (own_z 1147 (by decide)) (own_z 1081 (by decide)) (own_z 1070 (by decide)) (by decide) (by decide) (by decide) (by decide) (by decide) (by decide) (by decide) (by decide) (by decide) (by decide) e_ob1 e_pb1 e_w1 e_so1 e_sp1 e_oa1 e_pa1
    obtain ⟨pw1, e_pw1⟩ : ∃ z, FP.dadd (0 : UInt64) (FP.l2d wa) = z := ⟨_, rfl⟩
    obtain ⟨wr1, e_wr1⟩ : ∃ z, FP.dadd (0 : UInt64) (FP.dmul (FP.l2d wa) (FP.ddiv (FP.l2d xa) (FP.l2d p0.toInt64))) = z := ⟨_, rfl⟩
    obtain ⟨n143_1, n157_1, n158_1, n159_1, R_p1, R_r1, B_1⟩ := own_ratio (rS_wa) (Jvm.OwnFP.ra_zero) (Jvm.OwnFP.ra_zero) (rX_xa) (rO_0) w1_wa w2_wa (by omega) (by omega) (by omega) (by omega) hO0 q1_xa q2_xa
    rw [e_pw1] at R_p1; rw [e_wr1] at R_r1
    obtain ⟨ob2, e_ob2⟩ : ∃ z, FP.dsub (FP.l2d xb) (FP.ddiv so1 w1) = z := ⟨_, rfl⟩
    obtain ⟨pb2, e_pb2⟩ : ∃ z, FP.dsub (FP.l2d p1.toInt64) (FP.ddiv sp1 w1) = z := ⟨_, rfl⟩
    obtain ⟨w2, e_w2⟩ : ∃ z, FP.dadd w1 (FP.l2d wb) = z := ⟨_, rfl⟩
    obtain ⟨so2, e_so2⟩ : ∃ z, FP.dadd so1 (FP.dmul (FP.l2d wb) (FP.l2d xb)) = z := ⟨_, rfl⟩
    obtain ⟨sp2, e_sp2⟩ : ∃ z, FP.dadd sp1 (FP.dmul (FP.l2d wb) (FP.l2d p1.toInt64)) = z := ⟨_, rfl⟩
    obtain ⟨oa2, e_oa2⟩ : ∃ z, FP.dsub (FP.l2d xb) (FP.ddiv so2 w2) = z := ⟨_, rfl⟩
    obtain ⟨pa2, e_pa2⟩ : ∃ z, FP.dsub (FP.l2d p1.toInt64) (FP.ddiv sp2 w2) = z := ⟨_, rfl⟩
    obtain ⟨ma2, e_ma2⟩ : ∃ z, FP.dadd ma1 (FP.dmul (FP.dmul (FP.l2d wb) ob2) oa2) = z := ⟨_, rfl⟩
    obtain ⟨mb2, e_mb2⟩ : ∃ z, FP.dadd mb1 (FP.dmul (FP.dmul (FP.l2d wb) pb2) pa2) = z := ⟨_, rfl⟩
    obtain ⟨mc2, e_mc2⟩ : ∃ z, FP.dadd mc1 (FP.dmul (FP.dmul (FP.l2d wb) ob2) pa2) = z := ⟨_, rfl⟩
    obtain ⟨n5_2, n15_2, n34_2, n45_2, n46_2, n59_2, n60_2, n21_66_2, n69_2, n21_76_2, n79_2, n90_2, n93_2, n94_2, n106_2, n109_2, n110_2, n125_2, n126_2, R_w2, M_so2, M_sp2, M_ma2, M_mb2, M_mc2, M_mo2, M_mp2⟩ := own_add (rS_wb) (R_w1) (w1_wb) (w2_wb) (by omega) (by omega) (mX_xb) (mO_1) M_so1 M_sp1 (e_ma1 ▸ M_ma1) (e_mb1 ▸ M_mb1) (e_mc1 ▸ M_mc1) M_mo1 M_mp1 (by decide) (by decide) (by decide) (by decide) (by decide) (by decide) (by decide) (by decide) (by decide) (by decide) e_ob2 e_pb2 e_w2 e_so2 e_sp2 e_oa2 e_pa2
    obtain ⟨pw2, e_pw2⟩ : ∃ z, FP.dadd pw1 (FP.l2d wb) = z := ⟨_, rfl⟩
    obtain ⟨wr2, e_wr2⟩ : ∃ z, FP.dadd wr1 (FP.dmul (FP.l2d wb) (FP.ddiv (FP.l2d xb) (FP.l2d p1.toInt64))) = z := ⟨_, rfl⟩
    obtain ⟨n143_2, n157_2, n158_2, n159_2, R_p2, R_r2, B_2⟩ := own_ratio (rS_wb) (R_p1) (R_r1) (rX_xb) (rO_1) w1_wb w2_wb (by omega) (by omega) (by omega) (by omega) hO1 q1_xb q2_xb
    rw [e_pw2] at R_p2; rw [e_wr2] at R_r2
    obtain ⟨pA, e_pA⟩ : ∃ z, (0 : Int64) + wa = z := ⟨_, rfl⟩
    obtain ⟨nA, e_nA⟩ : ∃ z, (0 : Int64) + (wa * ra) = z := ⟨_, rfl⟩
    have bmA : (Wa * Qa).natAbs ≤ 1024 * 1023 := by rw [Int.natAbs_mul]; exact Nat.mul_le_mul (by omega) (by omega)
    have kmA : (wa * ra).toInt = Wa * Qa := Jvm.OwnFP.lmul_of hWa hQa (by omega) (by omega)
    have kpA : pA.toInt = 0 + Wa := by rw [← e_pA]; exact Jvm.OwnFP.ladd_of z64 hWa (by omega) (by omega)
    have knA : nA.toInt = 0 + Wa * Qa := by rw [← e_nA]; exact Jvm.OwnFP.ladd_of z64 kmA (by omega) (by omega)
    obtain ⟨pB, e_pB⟩ : ∃ z, pA + wb = z := ⟨_, rfl⟩
    obtain ⟨nB, e_nB⟩ : ∃ z, nA + (wb * rb) = z := ⟨_, rfl⟩
    have bmB : (Wb * Qb).natAbs ≤ 1024 * 1023 := by rw [Int.natAbs_mul]; exact Nat.mul_le_mul (by omega) (by omega)
    have kmB : (wb * rb).toInt = Wb * Qb := Jvm.OwnFP.lmul_of hWb hQb (by omega) (by omega)
    have kpB : pB.toInt = (0 + Wa) + Wb := by rw [← e_pB]; exact Jvm.OwnFP.ladd_of kpA hWb (by omega) (by omega)
    have knB : nB.toInt = (0 + Wa * Qa) + Wb * Qb := by rw [← e_nB]; exact Jvm.OwnFP.ladd_of knA kmB (by omega) (by omega)
    obtain ⟨y1, y2, y3, y4⟩ := own_end R_r2 R_p2 ((Jvm.OwnFP.Ra.l2d (a := nB) (by rw [knB]; omega)).same knB) ((Jvm.OwnFP.Ra.l2d (a := pB) (by rw [kpB]; omega)).same kpB) (by omega)
    exact rm0_pp l Z a0 hw ws p0 p1 p2 p3 p4 p5 (ob1 := ob1) (pb1 := pb1) (w1 := w1) (so1 := so1) (sp1 := sp1) (oa1 := oa1) (pa1 := pa1) (ma1 := ma1) (mb1 := mb1) (mc1 := mc1) (pw1 := pw1) (wr1 := wr1) (ob2 := ob2) (pb2 := pb2) (w2 := w2) (so2 := so2) (sp2 := sp2) (oa2 := oa2) (pa2 := pa2) (ma2 := ma2) (mb2 := mb2) (mc2 := mc2) (pw2 := pw2) (wr2 := wr2) (wa := wa) (wb := wb) (ra := ra) (rb := rb) (xa := xa) (xb := xb) (pA := pA) (nA := nA) (pB := pB) (nB := nB) h0 n0 Z0 (hv8 := e_wa) (hv19 := e_wb) (hc29 := uA) (hc46 := uB) (hv61 := e_ra) (hv69 := e_rb) (hv95 := e_xa) (nn5_99 := n5_1) (hq5_99 := e_ob1) (nn15_99 := n15_1) (hq15_99 := e_pb1) (nn34_99 := n34_1) (hq34_99 := e_w1) (nn45_99 := n45_1) (nn46_99 := n46_1) (hq46_99 := e_so1) (nn59_99 := n59_1) (nn60_99 := n60_1) (hq60_99 := e_sp1) (nn21_66_99 := n21_66_1) (nn69_99 := n69_1) (hq69_99 := e_oa1) (nn21_76_99 := n21_76_1) (nn79_99 := n79_1) (hq79_99 := e_pa1) (nn90_99 := n90_1) (nn93_99 := n93_1) (nn94_99 := n94_1) (hq94_99 := e_ma1) (nn106_99 := n106_1) (nn109_99 := n109_1) (nn110_99 := n110_1) (hq110_99 := e_mb1) (nn122_99 := n90_1) (nn125_99 := n125_1) (nn126_99 := n126_1) (hq126_99 := e_mc1) (hc134_99 := (lw_gt _ _).mpr (Int64.lt_iff_toInt_lt.mpr (by rw [c_i2l, z64]; exact hO0))) (nn143_99 := n143_1) (hq143_99 := e_pw1) (nn157_99 := n157_1) (nn158_99 := n158_1) (nn159_99 := n159_1) (hq159_99 := e_wr1) (hv116 := e_xb) (nn21_2_120 := n21_66_1) (nn5_120 := n5_2) (hq5_120 := e_ob2) (nn21_12_120 := n21_76_1) (nn15_120 := n15_2) (hq15_120 := e_pb2) (nn34_120 := n34_2) (hq34_120 := e_w2) (nn45_120 := n45_2) (nn46_120 := n46_2) (hq46_120 := e_so2) (nn59_120 := n59_2) (nn60_120 := n60_2) (hq60_120 := e_sp2) (nn21_66_120 := n21_66_2) (nn69_120 := n69_2) (hq69_120 := e_oa2) (nn21_76_120 := n21_76_2) (nn79_120 := n79_2) (hq79_120 := e_pa2) (nn90_120 := n90_2) (nn93_120 := n93_2) (nn94_120 := n94_2) (hq94_120 := e_ma2) (nn106_120 := n106_2) (nn109_120 := n109_2) (nn110_120 := n110_2) (hq110_120 := e_mb2) (nn122_120 := n90_2) (nn125_120 := n125_2) (nn126_120 := n126_2) (hq126_120 := e_mc2) (hc134_120 := (lw_gt _ _).mpr (Int64.lt_iff_toInt_lt.mpr (by rw [c_i2l, z64]; exact hO1))) (nn143_120 := n143_2) (hq143_120 := e_pw2) (nn157_120 := n157_2) (nn158_120 := n158_2) (nn159_120 := n159_2) (hq159_120 := e_wr2) (hc135 := sA) (hv142 := e_pA) (hv152 := e_nA) (hc161 := sB) (hv168 := e_pB) (hv178 := e_nB) (hd5_183 := y4) (nn23_183 := y1) (hc192 := fun q => by have := (lw_eq _ _).mp q; rw [← Int64.toInt_inj, kpB, z64] at this; omega) (nn217 := y2) (hd218 := y3)
  · skip
    obtain ⟨ob1, e_ob1⟩ : ∃ z, FP.dsub (FP.l2d xa) (0 : UInt64) = z := ⟨_, rfl⟩
    obtain ⟨pb1, e_pb1⟩ : ∃ z, FP.dsub (FP.l2d p0.toInt64) (0 : UInt64) = z := ⟨_, rfl⟩
    obtain ⟨w1, e_w1⟩ : ∃ z, FP.dadd (0 : UInt64) (FP.l2d wa) = z := ⟨_, rfl⟩
    obtain ⟨so1, e_so1⟩ : ∃ z, FP.dadd (0 : UInt64) (FP.dmul (FP.l2d wa) (FP.l2d xa)) = z := ⟨_, rfl⟩
    obtain ⟨sp1, e_sp1⟩ : ∃ z, FP.dadd (0 : UInt64) (FP.dmul (FP.l2d wa) (FP.l2d p0.toInt64)) = z := ⟨_, rfl⟩
    obtain ⟨oa1, e_oa1⟩ : ∃ z, FP.dsub (FP.l2d xa) (FP.ddiv so1 w1) = z := ⟨_, rfl⟩
    obtain ⟨pa1, e_pa1⟩ : ∃ z, FP.dsub (FP.l2d p0.toInt64) (FP.ddiv sp1 w1) = z := ⟨_, rfl⟩
    obtain ⟨ma1, e_ma1⟩ : ∃ z, FP.dadd (0 : UInt64) (FP.dmul (FP.dmul (FP.l2d wa) ob1) oa1) = z := ⟨_, rfl⟩
    obtain ⟨mb1, e_mb1⟩ : ∃ z, FP.dadd (0 : UInt64) (FP.dmul (FP.dmul (FP.l2d wa) pb1) pa1) = z := ⟨_, rfl⟩
    obtain ⟨mc1, e_mc1⟩ : ∃ z, FP.dadd (0 : UInt64) (FP.dmul (FP.dmul (FP.l2d wa) ob1) pa1) = z := ⟨_, rfl⟩
    obtain ⟨n5_1, n15_1, n34_1, n45_1, n46_1, n59_1, n60_1, n21_66_1, n69_1, n21_76_1, n79_1, n90_1, n93_1, n94_1, n106_1, n109_1, n110_1, n125_1, n126_1, R_w1, M_so1, M_sp1, M_ma1, M_mb1, M_mc1, M_mo1, M_mp1⟩ := own_add (rS_wa) (Jvm.OwnFP.ra_zero) (w1_wa) (w2_wa) (by decide) (by decide) (mX_xa) (mO_0) (own_z 1078 (by decide)) (own_z 1067 (by decide)) (own_z 1158 (by decide)) (own_z 1136 (by decide)) (own_z 1147 (by decide)) (own_z 1081 (by decide)) (own_z 1070 (by decide)) (by decide) (by decide) (by decide) (by decide) (by decide) (by decide) (by decide) (by decide) (by decide) (by decide) e_ob1 e_pb1 e_w1 e_so1 e_sp1 e_oa1 e_pa1
    obtain ⟨pw1, e_pw1⟩ : ∃ z, FP.dadd (0 : UInt64) (FP.l2d wa) = z := ⟨_, rfl⟩
    obtain ⟨wr1, e_wr1⟩ : ∃ z, FP.dadd (0 : UInt64) (FP.dmul (FP.l2d wa) (FP.ddiv (FP.l2d xa) (FP.l2d p0.toInt64))) = z := ⟨_, rfl⟩
    obtain ⟨n143_1, n157_1, n158_1, n159_1, R_p1, R_r1, B_1⟩ := own_ratio (rS_wa) (Jvm.OwnFP.ra_zero) (Jvm.OwnFP.ra_zero) (rX_xa) (rO_0) w1_wa w2_wa (by omega) (by omega) (by omega) (by omega) hO0 q1_xa q2_xa
    rw [e_pw1] at R_p1; rw [e_wr1] at R_r1
    obtain ⟨ob2, e_ob2⟩ : ∃ z, FP.dsub (FP.l2d xb) (FP.ddiv so1 w1) = z := ⟨_, rfl⟩
    obtain ⟨pb2, e_pb2⟩ : ∃ z, FP.dsub (FP.l2d p1.toInt64) (FP.ddiv sp1 w1) = z := ⟨_, rfl⟩
    obtain ⟨w2, e_w2⟩ : ∃ z, FP.dadd w1 (FP.l2d wb) = z := ⟨_, rfl⟩
    obtain ⟨so2, e_so2⟩ : ∃ z, FP.dadd so1 (FP.dmul (FP.l2d wb) (FP.l2d xb)) = z := ⟨_, rfl⟩
    obtain ⟨sp2, e_sp2⟩ : ∃ z, FP.dadd sp1 (FP.dmul (FP.l2d wb) (FP.l2d p1.toInt64)) = z := ⟨_, rfl⟩
    obtain ⟨oa2, e_oa2⟩ : ∃ z, FP.dsub (FP.l2d xb) (FP.ddiv so2 w2) = z := ⟨_, rfl⟩
    obtain ⟨pa2, e_pa2⟩ : ∃ z, FP.dsub (FP.l2d p1.toInt64) (FP.ddiv sp2 w2) = z := ⟨_, rfl⟩
    obtain ⟨ma2, e_ma2⟩ : ∃ z, FP.dadd ma1 (FP.dmul (FP.dmul (FP.l2d wb) ob2) oa2) = z := ⟨_, rfl⟩
    obtain ⟨mb2, e_mb2⟩ : ∃ z, FP.dadd mb1 (FP.dmul (FP.dmul (FP.l2d wb) pb2) pa2) = z := ⟨_, rfl⟩
    obtain ⟨mc2, e_mc2⟩ : ∃ z, FP.dadd mc1 (FP.dmul (FP.dmul (FP.l2d wb) ob2) pa2) = z := ⟨_, rfl⟩
    obtain ⟨n5_2, n15_2, n34_2, n45_2, n46_2, n59_2, n60_2, n21_66_2, n69_2, n21_76_2, n79_2, n90_2, n93_2, n94_2, n106_2, n109_2, n110_2, n125_2, n126_2, R_w2, M_so2, M_sp2, M_ma2, M_mb2, M_mc2, M_mo2, M_mp2⟩ := own_add (rS_wb) (R_w1) (w1_wb) (w2_wb) (by omega) (by omega) (mX_xb) (mO_1) M_so1 M_sp1 (e_ma1 ▸ M_ma1) (e_mb1 ▸ M_mb1) (e_mc1 ▸ M_mc1) M_mo1 M_mp1 (by decide) (by decide) (by decide) (by decide) (by decide) (by decide) (by decide) (by decide) (by decide) (by decide) e_ob2 e_pb2 e_w2 e_so2 e_sp2 e_oa2 e_pa2
    obtain ⟨zw2, e_zw2⟩ : ∃ z, FP.dadd (0 : UInt64) (FP.l2d wb) = z := ⟨_, rfl⟩
    have R_z2 := Jvm.OwnFP.Ra.add (k := 0) (Jvm.OwnFP.ra_zero) (rS_wb) (by omega) rfl (by decide)
    have n172_2 := R_z2.nn
    rw [e_zw2] at R_z2
    obtain ⟨pA, e_pA⟩ : ∃ z, (0 : Int64) + wa = z := ⟨_, rfl⟩
    obtain ⟨nA, e_nA⟩ : ∃ z, (0 : Int64) + (wa * ra) = z := ⟨_, rfl⟩
    have bmA : (Wa * Qa).natAbs ≤ 1024 * 1023 := by rw [Int.natAbs_mul]; exact Nat.mul_le_mul (by omega) (by omega)
    have kmA : (wa * ra).toInt = Wa * Qa := Jvm.OwnFP.lmul_of hWa hQa (by omega) (by omega)
    have kpA : pA.toInt = 0 + Wa := by rw [← e_pA]; exact Jvm.OwnFP.ladd_of z64 hWa (by omega) (by omega)
    have knA : nA.toInt = 0 + Wa * Qa := by rw [← e_nA]; exact Jvm.OwnFP.ladd_of z64 kmA (by omega) (by omega)
    obtain ⟨y1, y2, y3, y4⟩ := own_end R_r1 R_p1 ((Jvm.OwnFP.Ra.l2d (a := nA) (by rw [knA]; omega)).same knA) ((Jvm.OwnFP.Ra.l2d (a := pA) (by rw [kpA]; omega)).same kpA) (by omega)
    exact rm0_pz l Z a0 hw ws p0 p1 p2 p3 p4 p5 (ob1 := ob1) (pb1 := pb1) (w1 := w1) (so1 := so1) (sp1 := sp1) (oa1 := oa1) (pa1 := pa1) (ma1 := ma1) (mb1 := mb1) (mc1 := mc1) (pw1 := pw1) (wr1 := wr1) (ob2 := ob2) (pb2 := pb2) (w2 := w2) (so2 := so2) (sp2 := sp2) (oa2 := oa2) (pa2 := pa2) (ma2 := ma2) (mb2 := mb2) (mc2 := mc2) (zw2 := zw2) (wa := wa) (wb := wb) (ra := ra) (rb := rb) (xa := xa) (xb := xb) (pA := pA) (nA := nA) h0 n0 Z0 (hv8 := e_wa) (hv19 := e_wb) (hc29 := uA) (hc46 := uB) (hv61 := e_ra) (hv69 := e_rb) (hv95 := e_xa) (nn5_99 := n5_1) (hq5_99 := e_ob1) (nn15_99 := n15_1) (hq15_99 := e_pb1) (nn34_99 := n34_1) (hq34_99 := e_w1) (nn45_99 := n45_1) (nn46_99 := n46_1) (hq46_99 := e_so1) (nn59_99 := n59_1) (nn60_99 := n60_1) (hq60_99 := e_sp1) (nn21_66_99 := n21_66_1) (nn69_99 := n69_1) (hq69_99 := e_oa1) (nn21_76_99 := n21_76_1) (nn79_99 := n79_1) (hq79_99 := e_pa1) (nn90_99 := n90_1) (nn93_99 := n93_1) (nn94_99 := n94_1) (hq94_99 := e_ma1) (nn106_99 := n106_1) (nn109_99 := n109_1) (nn110_99 := n110_1) (hq110_99 := e_mb1) (nn122_99 := n90_1) (nn125_99 := n125_1) (nn126_99 := n126_1) (hq126_99 := e_mc1) (hc134_99 := (lw_gt _ _).mpr (Int64.lt_iff_toInt_lt.mpr (by rw [c_i2l, z64]; exact hO0))) (nn143_99 := n143_1) (hq143_99 := e_pw1) (nn157_99 := n157_1) (nn158_99 := n158_1) (nn159_99 := n159_1) (hq159_99 := e_wr1) (hv116 := e_xb) (nn21_2_120 := n21_66_1) (nn5_120 := n5_2) (hq5_120 := e_ob2) (nn21_12_120 := n21_76_1) (nn15_120 := n15_2) (hq15_120 := e_pb2) (nn34_120 := n34_2) (hq34_120 := e_w2) (nn45_120 := n45_2) (nn46_120 := n46_2) (hq46_120 := e_so2) (nn59_120 := n59_2) (nn60_120 := n60_2) (hq60_120 := e_sp2) (nn21_66_120 := n21_66_2) (nn69_120 := n69_2) (hq69_120 := e_oa2) (nn21_76_120 := n21_76_2) (nn79_120 := n79_2) (hq79_120 := e_pa2) (nn90_120 := n90_2) (nn93_120 := n93_2) (nn94_120 := n94_2) (hq94_120 := e_ma2) (nn106_120 := n106_2) (nn109_120 := n109_2) (nn110_120 := n110_2) (hq110_120 := e_mb2) (nn122_120 := n90_2) (nn125_120 := n125_2) (nn126_120 := n126_2) (hq126_120 := e_mc2) (hc134_120 := fun q => by have := Int64.lt_iff_toInt_lt.mp ((lw_gt _ _).mp q); rw [c_i2l, z64] at this; omega) (nn172_120 := n172_2) (hq172_120 := e_zw2) (hc135 := sA) (hv142 := e_pA) (hv152 := e_nA) (hc161 := sB) (hd5_183 := y4) (nn23_183 := y1) (hc192 := fun q => by have := (lw_eq _ _).mp q; rw [← Int64.toInt_inj, kpA, z64] at this; omega) (nn217 := y2) (hd218 := y3)
  · skip
    obtain ⟨ob1, e_ob1⟩ : ∃ z, FP.dsub (FP.l2d xa) (0 : UInt64) = z := ⟨_, rfl⟩
    obtain ⟨pb1, e_pb1⟩ : ∃ z, FP.dsub (FP.l2d p0.toInt64) (0 : UInt64) = z := ⟨_, rfl⟩
    obtain ⟨w1, e_w1⟩ : ∃ z, FP.dadd (0 : UInt64) (FP.l2d wa) = z := ⟨_, rfl⟩
    obtain ⟨so1, e_so1⟩ : ∃ z, FP.dadd (0 : UInt64) (FP.dmul (FP.l2d wa) (FP.l2d xa)) = z := ⟨_, rfl⟩
    obtain ⟨sp1, e_sp1⟩ : ∃ z, FP.dadd (0 : UInt64) (FP.dmul (FP.l2d wa) (FP.l2d p0.toInt64)) = z := ⟨_, rfl⟩
    obtain ⟨oa1, e_oa1⟩ : ∃ z, FP.dsub (FP.l2d xa) (FP.ddiv so1 w1) = z := ⟨_, rfl⟩
    obtain ⟨pa1, e_pa1⟩ : ∃ z, FP.dsub (FP.l2d p0.toInt64) (FP.ddiv sp1 w1) = z := ⟨_, rfl⟩
    obtain ⟨ma1, e_ma1⟩ : ∃ z, FP.dadd (0 : UInt64) (FP.dmul (FP.dmul (FP.l2d wa) ob1) oa1) = z := ⟨_, rfl⟩
    obtain ⟨mb1, e_mb1⟩ : ∃ z, FP.dadd (0 : UInt64) (FP.dmul (FP.dmul (FP.l2d wa) pb1) pa1) = z := ⟨_, rfl⟩
    obtain ⟨mc1, e_mc1⟩ : ∃ z, FP.dadd (0 : UInt64) (FP.dmul (FP.dmul (FP.l2d wa) ob1) pa1) = z := ⟨_, rfl⟩
    obtain ⟨n5_1, n15_1, n34_1, n45_1, n46_1, n59_1, n60_1, n21_66_1, n69_1, n21_76_1, n79_1, n90_1, n93_1, n94_1, n106_1, n109_1, n110_1, n125_1, n126_1, R_w1, M_so1, M_sp1, M_ma1, M_mb1, M_mc1, M_mo1, M_mp1⟩ := own_add (rS_wa) (Jvm.OwnFP.ra_zero) (w1_wa) (w2_wa) (by decide) (by decide) (mX_xa) (mO_0) (own_z 1078 (by decide)) (own_z 1067 (by decide)) (own_z 1158 (by decide)) (own_z 1136 (by decide)) (own_z 1147 (by decide)) (own_z 1081 (by decide)) (own_z 1070 (by decide)) (by decide) (by decide) (by decide) (by decide) (by decide) (by decide) (by decide) (by decide) (by decide) (by decide) e_ob1 e_pb1 e_w1 e_so1 e_sp1 e_oa1 e_pa1
    obtain ⟨zw1, e_zw1⟩ : ∃ z, FP.dadd (0 : UInt64) (FP.l2d wa) = z := ⟨_, rfl⟩
    have R_z1 := Jvm.OwnFP.Ra.add (k := 0) (Jvm.OwnFP.ra_zero) (rS_wa) (by omega) rfl (by decide)
    have n172_1 := R_z1.nn
    rw [e_zw1] at R_z1
    exact rm0_zo l Z a0 hw ws p0 p1 p2 p3 p4 p5 (ob1 := ob1) (pb1 := pb1) (w1 := w1) (so1 := so1) (sp1 := sp1) (oa1 := oa1) (pa1 := pa1) (ma1 := ma1) (mb1 := mb1) (mc1 := mc1) (zw1 := zw1) (wa := wa) (wb := wb) (ra := ra) (rb := rb) (xa := xa) h0 n0 Z0 (hv8 := e_wa) (hv19 := e_wb) (hc29 := uA) (hc46 := uB) (hv61 := e_ra) (hv69 := e_rb) (hv95 := e_xa) (nn5_99 := n5_1) (hq5_99 := e_ob1) (nn15_99 := n15_1) (hq15_99 := e_pb1) (nn34_99 := n34_1) (hq34_99 := e_w1) (nn45_99 := n45_1) (nn46_99 := n46_1) (hq46_99 := e_so1) (nn59_99 := n59_1) (nn60_99 := n60_1) (hq60_99 := e_sp1) (nn21_66_99 := n21_66_1) (nn69_99 := n69_1) (hq69_99 := e_oa1) (nn21_76_99 := n21_76_1) (nn79_99 := n79_1) (hq79_99 := e_pa1) (nn90_99 := n90_1) (nn93_99 := n93_1) (nn94_99 := n94_1) (hq94_99 := e_ma1) (nn106_99 := n106_1) (nn109_99 := n109_1) (nn110_99 := n110_1) (hq110_99 := e_mb1) (nn122_99 := n90_1) (nn125_99 := n125_1) (nn126_99 := n126_1) (hq126_99 := e_mc1) (hc134_99 := fun q => by have := Int64.lt_iff_toInt_lt.mp ((lw_gt _ _).mp q); rw [c_i2l, z64] at this; omega) (nn172_99 := n172_1) (hq172_99 := e_zw1) (hc135 := sA) (hd5_183 := Jvm.OwnFP.ra_zero.eq Jvm.OwnFP.ra_zero (by decide) rfl _) (hd199 := by decide +kernel)
  · skip
    obtain ⟨ob1, e_ob1⟩ : ∃ z, FP.dsub (FP.l2d xa) (0 : UInt64) = z := ⟨_, rfl⟩
    obtain ⟨pb1, e_pb1⟩ : ∃ z, FP.dsub (FP.l2d p0.toInt64) (0 : UInt64) = z := ⟨_, rfl⟩
    obtain ⟨w1, e_w1⟩ : ∃ z, FP.dadd (0 : UInt64) (FP.l2d wa) = z := ⟨_, rfl⟩
    obtain ⟨so1, e_so1⟩ : ∃ z, FP.dadd (0 : UInt64) (FP.dmul (FP.l2d wa) (FP.l2d xa)) = z := ⟨_, rfl⟩
    obtain ⟨sp1, e_sp1⟩ : ∃ z, FP.dadd (0 : UInt64) (FP.dmul (FP.l2d wa) (FP.l2d p0.toInt64)) = z := ⟨_, rfl⟩
    obtain ⟨oa1, e_oa1⟩ : ∃ z, FP.dsub (FP.l2d xa) (FP.ddiv so1 w1) = z := ⟨_, rfl⟩
    obtain ⟨pa1, e_pa1⟩ : ∃ z, FP.dsub (FP.l2d p0.toInt64) (FP.ddiv sp1 w1) = z := ⟨_, rfl⟩
    obtain ⟨ma1, e_ma1⟩ : ∃ z, FP.dadd (0 : UInt64) (FP.dmul (FP.dmul (FP.l2d wa) ob1) oa1) = z := ⟨_, rfl⟩
    obtain ⟨mb1, e_mb1⟩ : ∃ z, FP.dadd (0 : UInt64) (FP.dmul (FP.dmul (FP.l2d wa) pb1) pa1) = z := ⟨_, rfl⟩
    obtain ⟨mc1, e_mc1⟩ : ∃ z, FP.dadd (0 : UInt64) (FP.dmul (FP.dmul (FP.l2d wa) ob1) pa1) = z := ⟨_, rfl⟩
    obtain ⟨n5_1, n15_1, n34_1, n45_1, n46_1, n59_1, n60_1, n21_66_1, n69_1, n21_76_1, n79_1, n90_1, n93_1, n94_1, n106_1, n109_1, n110_1, n125_1, n126_1, R_w1, M_so1, M_sp1, M_ma1, M_mb1, M_mc1, M_mo1, M_mp1⟩ := own_add (rS_wa) (Jvm.OwnFP.ra_zero) (w1_wa) (w2_wa) (by decide) (by decide) (mX_xa) (mO_0) (own_z 1078 (by decide)) (own_z 1067 (by decide)) (own_z 1158 (by decide)) (own_z 1136 (by decide)) (own_z 1147 (by decide)) (own_z 1081 (by decide)) (own_z 1070 (by decide)) (by decide) (by decide) (by decide) (by decide) (by decide) (by decide) (by decide) (by decide) (by decide) (by decide) e_ob1 e_pb1 e_w1 e_so1 e_sp1 e_oa1 e_pa1
    obtain ⟨zw1, e_zw1⟩ : ∃ z, FP.dadd (0 : UInt64) (FP.l2d wa) = z := ⟨_, rfl⟩
    have R_z1 := Jvm.OwnFP.Ra.add (k := 0) (Jvm.OwnFP.ra_zero) (rS_wa) (by omega) rfl (by decide)
    have n172_1 := R_z1.nn
    rw [e_zw1] at R_z1
    obtain ⟨ob2, e_ob2⟩ : ∃ z, FP.dsub (FP.l2d xb) (FP.ddiv so1 w1) = z := ⟨_, rfl⟩
    obtain ⟨pb2, e_pb2⟩ : ∃ z, FP.dsub (FP.l2d p1.toInt64) (FP.ddiv sp1 w1) = z := ⟨_, rfl⟩
    obtain ⟨w2, e_w2⟩ : ∃ z, FP.dadd w1 (FP.l2d wb) = z := ⟨_, rfl⟩
    obtain ⟨so2, e_so2⟩ : ∃ z, FP.dadd so1 (FP.dmul (FP.l2d wb) (FP.l2d xb)) = z := ⟨_, rfl⟩
    obtain ⟨sp2, e_sp2⟩ : ∃ z, FP.dadd sp1 (FP.dmul (FP.l2d wb) (FP.l2d p1.toInt64)) = z := ⟨_, rfl⟩
    obtain ⟨oa2, e_oa2⟩ : ∃ z, FP.dsub (FP.l2d xb) (FP.ddiv so2 w2) = z := ⟨_, rfl⟩
    obtain ⟨pa2, e_pa2⟩ : ∃ z, FP.dsub (FP.l2d p1.toInt64) (FP.ddiv sp2 w2) = z := ⟨_, rfl⟩
    obtain ⟨ma2, e_ma2⟩ : ∃ z, FP.dadd ma1 (FP.dmul (FP.dmul (FP.l2d wb) ob2) oa2) = z := ⟨_, rfl⟩
    obtain ⟨mb2, e_mb2⟩ : ∃ z, FP.dadd mb1 (FP.dmul (FP.dmul (FP.l2d wb) pb2) pa2) = z := ⟨_, rfl⟩
    obtain ⟨mc2, e_mc2⟩ : ∃ z, FP.dadd mc1 (FP.dmul (FP.dmul (FP.l2d wb) ob2) pa2) = z := ⟨_, rfl⟩
    obtain ⟨n5_2, n15_2, n34_2, n45_2, n46_2, n59_2, n60_2, n21_66_2, n69_2, n21_76_2, n79_2, n90_2, n93_2, n94_2, n106_2, n109_2, n110_2, n125_2, n126_2, R_w2, M_so2, M_sp2, M_ma2, M_mb2, M_mc2, M_mo2, M_mp2⟩ := own_add (rS_wb) (R_w1) (w1_wb) (w2_wb) (by omega) (by omega) (mX_xb) (mO_1) M_so1 M_sp1 (e_ma1 ▸ M_ma1) (e_mb1 ▸ M_mb1) (e_mc1 ▸ M_mc1) M_mo1 M_mp1 (by decide) (by decide) (by decide) (by decide) (by decide) (by decide) (by decide) (by decide) (by decide) (by decide) e_ob2 e_pb2 e_w2 e_so2 e_sp2 e_oa2 e_pa2
    obtain ⟨pw2, e_pw2⟩ : ∃ z, FP.dadd (0 : UInt64) (FP.l2d wb) = z := ⟨_, rfl⟩
    obtain ⟨wr2, e_wr2⟩ : ∃ z, FP.dadd (0 : UInt64) (FP.dmul (FP.l2d wb) (FP.ddiv (FP.l2d xb) (FP.l2d p1.toInt64))) = z := ⟨_, rfl⟩
    obtain ⟨n143_2, n157_2, n158_2, n159_2, R_p2, R_r2, B_2⟩ := own_ratio (rS_wb) (Jvm.OwnFP.ra_zero) (Jvm.OwnFP.ra_zero) (rX_xb) (rO_1) w1_wb w2_wb (by omega) (by omega) (by omega) (by omega) hO1 q1_xb q2_xb
    rw [e_pw2] at R_p2; rw [e_wr2] at R_r2
    obtain ⟨pB, e_pB⟩ : ∃ z, (0 : Int64) + wb = z := ⟨_, rfl⟩
    obtain ⟨nB, e_nB⟩ : ∃ z, (0 : Int64) + (wb * rb) = z := ⟨_, rfl⟩
    have bmB : (Wb * Qb).natAbs ≤ 1024 * 1023 := by rw [Int.natAbs_mul]; exact Nat.mul_le_mul (by omega) (by omega)
    have kmB : (wb * rb).toInt = Wb * Qb := Jvm.OwnFP.lmul_of hWb hQb (by omega) (by omega)
    have kpB : pB.toInt = 0 + Wb := by rw [← e_pB]; exact Jvm.OwnFP.ladd_of z64 hWb (by omega) (by omega)
    have knB : nB.toInt = 0 + Wb * Qb := by rw [← e_nB]; exact Jvm.OwnFP.ladd_of z64 kmB (by omega) (by omega)
    obtain ⟨y1, y2, y3, y4⟩ := own_end R_r2 R_p2 ((Jvm.OwnFP.Ra.l2d (a := nB) (by rw [knB]; omega)).same knB) ((Jvm.OwnFP.Ra.l2d (a := pB) (by rw [kpB]; omega)).same kpB) (by omega)
    exact rm0_zp l Z a0 hw ws p0 p1 p2 p3 p4 p5 (ob1 := ob1) (pb1 := pb1) (w1 := w1) (so1 := so1) (sp1 := sp1) (oa1 := oa1) (pa1 := pa1) (ma1 := ma1) (mb1 := mb1) (mc1 := mc1) (zw1 := zw1) (ob2 := ob2) (pb2 := pb2) (w2 := w2) (so2 := so2) (sp2 := sp2) (oa2 := oa2) (pa2 := pa2) (ma2 := ma2) (mb2 := mb2) (mc2 := mc2) (pw2 := pw2) (wr2 := wr2) (wa := wa) (wb := wb) (ra := ra) (rb := rb) (xa := xa) (xb := xb) (pB := pB) (nB := nB) h0 n0 Z0 (hv8 := e_wa) (hv19 := e_wb) (hc29 := uA) (hc46 := uB) (hv61 := e_ra) (hv69 := e_rb) (hv95 := e_xa) (nn5_99 := n5_1) (hq5_99 := e_ob1) (nn15_99 := n15_1) (hq15_99 := e_pb1) (nn34_99 := n34_1) (hq34_99 := e_w1) (nn45_99 := n45_1) (nn46_99 := n46_1) (hq46_99 := e_so1) (nn59_99 := n59_1) (nn60_99 := n60_1) (hq60_99 := e_sp1) (nn21_66_99 := n21_66_1) (nn69_99 := n69_1) (hq69_99 := e_oa1) (nn21_76_99 := n21_76_1) (nn79_99 := n79_1) (hq79_99 := e_pa1) (nn90_99 := n90_1) (nn93_99 := n93_1) (nn94_99 := n94_1) (hq94_99 := e_ma1) (nn106_99 := n106_1) (nn109_99 := n109_1) (nn110_99 := n110_1) (hq110_99 := e_mb1) (nn122_99 := n90_1) (nn125_99 := n125_1) (nn126_99 := n126_1) (hq126_99 := e_mc1) (hc134_99 := fun q => by have := Int64.lt_iff_toInt_lt.mp ((lw_gt _ _).mp q); rw [c_i2l, z64] at this; omega) (nn172_99 := n172_1) (hq172_99 := e_zw1) (hv116 := e_xb) (nn21_2_120 := n21_66_1) (nn5_120 := n5_2) (hq5_120 := e_ob2) (nn21_12_120 := n21_76_1) (nn15_120 := n15_2) (hq15_120 := e_pb2) (nn34_120 := n34_2) (hq34_120 := e_w2) (nn45_120 := n45_2) (nn46_120 := n46_2) (hq46_120 := e_so2) (nn59_120 := n59_2) (nn60_120 := n60_2) (hq60_120 := e_sp2) (nn21_66_120 := n21_66_2) (nn69_120 := n69_2) (hq69_120 := e_oa2) (nn21_76_120 := n21_76_2) (nn79_120 := n79_2) (hq79_120 := e_pa2) (nn90_120 := n90_2) (nn93_120 := n93_2) (nn94_120 := n94_2) (hq94_120 := e_ma2) (nn106_120 := n106_2) (nn109_120 := n109_2) (nn110_120 := n110_2) (hq110_120 := e_mb2) (nn122_120 := n90_2) (nn125_120 := n125_2) (nn126_120 := n126_2) (hq126_120 := e_mc2) (hc134_120 := (lw_gt _ _).mpr (Int64.lt_iff_toInt_lt.mpr (by rw [c_i2l, z64]; exact hO1))) (nn143_120 := n143_2) (hq143_120 := e_pw2) (nn157_120 := n157_2) (nn158_120 := n158_2) (nn159_120 := n159_2) (hq159_120 := e_wr2) (hc135 := sA) (hc161 := sB) (hv168 := e_pB) (hv178 := e_nB) (hd5_183 := y4) (nn23_183 := y1) (hc192 := fun q => by have := (lw_eq _ _).mp q; rw [← Int64.toInt_inj, kpB, z64] at this; omega) (nn217 := y2) (hd218 := y3)
  · skip
    obtain ⟨ob1, e_ob1⟩ : ∃ z, FP.dsub (FP.l2d xa) (0 : UInt64) = z := ⟨_, rfl⟩
    obtain ⟨pb1, e_pb1⟩ : ∃ z, FP.dsub (FP.l2d p0.toInt64) (0 : UInt64) = z := ⟨_, rfl⟩
    obtain ⟨w1, e_w1⟩ : ∃ z, FP.dadd (0 : UInt64) (FP.l2d wa) = z := ⟨_, rfl⟩
    obtain ⟨so1, e_so1⟩ : ∃ z, FP.dadd (0 : UInt64) (FP.dmul (FP.l2d wa) (FP.l2d xa)) = z := ⟨_, rfl⟩
    obtain ⟨sp1, e_sp1⟩ : ∃ z, FP.dadd (0 : UInt64) (FP.dmul (FP.l2d wa) (FP.l2d p0.toInt64)) = z := ⟨_, rfl⟩
    obtain ⟨oa1, e_oa1⟩ : ∃ z, FP.dsub (FP.l2d xa) (FP.ddiv so1 w1) = z := ⟨_, rfl⟩
    obtain ⟨pa1, e_pa1⟩ : ∃ z, FP.dsub (FP.l2d p0.toInt64) (FP.ddiv sp1 w1) = z := ⟨_, rfl⟩
    obtain ⟨ma1, e_ma1⟩ : ∃ z, FP.dadd (0 : UInt64) (FP.dmul (FP.dmul (FP.l2d wa) ob1) oa1) = z := ⟨_, rfl⟩
    obtain ⟨mb1, e_mb1⟩ : ∃ z, FP.dadd (0 : UInt64) (FP.dmul (FP.dmul (FP.l2d wa) pb1) pa1) = z := ⟨_, rfl⟩
    obtain ⟨mc1, e_mc1⟩ : ∃ z, FP.dadd (0 : UInt64) (FP.dmul (FP.dmul (FP.l2d wa) ob1) pa1) = z := ⟨_, rfl⟩
    obtain ⟨n5_1, n15_1, n34_1, n45_1, n46_1, n59_1, n60_1, n21_66_1, n69_1, n21_76_1, n79_1, n90_1, n93_1, n94_1, n106_1, n109_1, n110_1, n125_1, n126_1, R_w1, M_so1, M_sp1, M_ma1, M_mb1, M_mc1, M_mo1, M_mp1⟩ := own_add (rS_wa) (Jvm.OwnFP.ra_zero) (w1_wa) (w2_wa) (by decide) (by decide) (mX_xa) (mO_0) (own_z 1078 (by decide)) (own_z 1067 (by decide)) (own_z 1158 (by decide)) (own_z 1136 (by decide)) (own_z 1147 (by decide)) (own_z 1081 (by decide)) (own_z 1070 (by decide)) (by decide) (by decide) (by decide) (by decide) (by decide) (by decide) (by decide) (by decide) (by decide) (by decide) e_ob1 e_pb1 e_w1 e_so1 e_sp1 e_oa1 e_pa1
    obtain ⟨zw1, e_zw1⟩ : ∃ z, FP.dadd (0 : UInt64) (FP.l2d wa) = z := ⟨_, rfl⟩
    have R_z1 := Jvm.OwnFP.Ra.add (k := 0) (Jvm.OwnFP.ra_zero) (rS_wa) (by omega) rfl (by decide)
    have n172_1 := R_z1.nn
    rw [e_zw1] at R_z1
    obtain ⟨ob2, e_ob2⟩ : ∃ z, FP.dsub (FP.l2d xb) (FP.ddiv so1 w1) = z := ⟨_, rfl⟩
    obtain ⟨pb2, e_pb2⟩ : ∃ z, FP.dsub (FP.l2d p1.toInt64) (FP.ddiv sp1 w1) = z := ⟨_, rfl⟩
    obtain ⟨w2, e_w2⟩ : ∃ z, FP.dadd w1 (FP.l2d wb) = z := ⟨_, rfl⟩
    obtain ⟨so2, e_so2⟩ : ∃ z, FP.dadd so1 (FP.dmul (FP.l2d wb) (FP.l2d xb)) = z := ⟨_, rfl⟩
    obtain ⟨sp2, e_sp2⟩ : ∃ z, FP.dadd sp1 (FP.dmul (FP.l2d wb) (FP.l2d p1.toInt64)) = z := ⟨_, rfl⟩
    obtain ⟨oa2, e_oa2⟩ : ∃ z, FP.dsub (FP.l2d xb) (FP.ddiv so2 w2) = z := ⟨_, rfl⟩
    obtain ⟨pa2, e_pa2⟩ : ∃ z, FP.dsub (FP.l2d p1.toInt64) (FP.ddiv sp2 w2) = z := ⟨_, rfl⟩
    obtain ⟨ma2, e_ma2⟩ : ∃ z, FP.dadd ma1 (FP.dmul (FP.dmul (FP.l2d wb) ob2) oa2) = z := ⟨_, rfl⟩
    obtain ⟨mb2, e_mb2⟩ : ∃ z, FP.dadd mb1 (FP.dmul (FP.dmul (FP.l2d wb) pb2) pa2) = z := ⟨_, rfl⟩
    obtain ⟨mc2, e_mc2⟩ : ∃ z, FP.dadd mc1 (FP.dmul (FP.dmul (FP.l2d wb) ob2) pa2) = z := ⟨_, rfl⟩
    obtain ⟨n5_2, n15_2, n34_2, n45_2, n46_2, n59_2, n60_2, n21_66_2, n69_2, n21_76_2, n79_2, n90_2, n93_2, n94_2, n106_2, n109_2, n110_2, n125_2, n126_2, R_w2, M_so2, M_sp2, M_ma2, M_mb2, M_mc2, M_mo2, M_mp2⟩ := own_add (rS_wb) (R_w1) (w1_wb) (w2_wb) (by omega) (by omega) (mX_xb) (mO_1) M_so1 M_sp1 (e_ma1 ▸ M_ma1) (e_mb1 ▸ M_mb1) (e_mc1 ▸ M_mc1) M_mo1 M_mp1 (by decide) (by decide) (by decide) (by decide) (by decide) (by decide) (by decide) (by decide) (by decide) (by decide) e_ob2 e_pb2 e_w2 e_so2 e_sp2 e_oa2 e_pa2
    obtain ⟨zw2, e_zw2⟩ : ∃ z, FP.dadd zw1 (FP.l2d wb) = z := ⟨_, rfl⟩
    have R_z2 := Jvm.OwnFP.Ra.add (k := 0) (R_z1) (rS_wb) (by omega) rfl (by decide)
    have n172_2 := R_z2.nn
    rw [e_zw2] at R_z2
    exact rm0_zz l Z a0 hw ws p0 p1 p2 p3 p4 p5 (ob1 := ob1) (pb1 := pb1) (w1 := w1) (so1 := so1) (sp1 := sp1) (oa1 := oa1) (pa1 := pa1) (ma1 := ma1) (mb1 := mb1) (mc1 := mc1) (zw1 := zw1) (ob2 := ob2) (pb2 := pb2) (w2 := w2) (so2 := so2) (sp2 := sp2) (oa2 := oa2) (pa2 := pa2) (ma2 := ma2) (mb2 := mb2) (mc2 := mc2) (zw2 := zw2) (wa := wa) (wb := wb) (ra := ra) (rb := rb) (xa := xa) (xb := xb) h0 n0 Z0 (hv8 := e_wa) (hv19 := e_wb) (hc29 := uA) (hc46 := uB) (hv61 := e_ra) (hv69 := e_rb) (hv95 := e_xa) (nn5_99 := n5_1) (hq5_99 := e_ob1) (nn15_99 := n15_1) (hq15_99 := e_pb1) (nn34_99 := n34_1) (hq34_99 := e_w1) (nn45_99 := n45_1) (nn46_99 := n46_1) (hq46_99 := e_so1) (nn59_99 := n59_1) (nn60_99 := n60_1) (hq60_99 := e_sp1) (nn21_66_99 := n21_66_1) (nn69_99 := n69_1) (hq69_99 := e_oa1) (nn21_76_99 := n21_76_1) (nn79_99 := n79_1) (hq79_99 := e_pa1) (nn90_99 := n90_1) (nn93_99 := n93_1) (nn94_99 := n94_1) (hq94_99 := e_ma1) (nn106_99 := n106_1) (nn109_99 := n109_1) (nn110_99 := n110_1) (hq110_99 := e_mb1) (nn122_99 := n90_1) (nn125_99 := n125_1) (nn126_99 := n126_1) (hq126_99 := e_mc1) (hc134_99 := fun q => by have := Int64.lt_iff_toInt_lt.mp ((lw_gt _ _).mp q); rw [c_i2l, z64] at this; omega) (nn172_99 := n172_1) (hq172_99 := e_zw1) (hv116 := e_xb) (nn21_2_120 := n21_66_1) (nn5_120 := n5_2) (hq5_120 := e_ob2) (nn21_12_120 := n21_76_1) (nn15_120 := n15_2) (hq15_120 := e_pb2) (nn34_120 := n34_2) (hq34_120 := e_w2) (nn45_120 := n45_2) (nn46_120 := n46_2) (hq46_120 := e_so2) (nn59_120 := n59_2) (nn60_120 := n60_2) (hq60_120 := e_sp2) (nn21_66_120 := n21_66_2) (nn69_120 := n69_2) (hq69_120 := e_oa2) (nn21_76_120 := n21_76_2) (nn79_120 := n79_2) (hq79_120 := e_pa2) (nn90_120 := n90_2) (nn93_120 := n93_2) (nn94_120 := n94_2) (hq94_120 := e_ma2) (nn106_120 := n106_2) (nn109_120 := n109_2) (nn110_120 := n110_2) (hq110_120 := e_mb2) (nn122_120 := n90_2) (nn125_120 := n125_2) (nn126_120 := n126_2) (hq126_120 := e_mc2) (hc134_120 := fun q => by have := Int64.lt_iff_toInt_lt.mp ((lw_gt _ _).mp q); rw [c_i2l, z64] at this; omega) (nn172_120 := n172_2) (hq172_120 := e_zw2) (hc135 := sA) (hc161 := sB) (hd5_183 := Jvm.OwnFP.ra_zero.eq Jvm.OwnFP.ra_zero (by decide) rfl _) (hd199 := by decide +kernel)
set_option maxRecDepth 65536 in
set_option maxHeartbeats 40000000 in
theorem comes_1 {Post : Tables → Env → Array Value → State → Outcome → State → Prop} (hpost : ∀ tb e args s v u, (limb_1_1.after args s (.returned v) u = true ∧ limb_1_2.after args s (.returned v) u = true ∧ True) → FrameEnd s (.returned v) u (Jvm.fieldLocs frame_1_writes args s ++ Jvm.arrayLocs frame_1_arrays args s ++ Jvm.staticLocs frame_1_statics s) 16 128 → Post tb e args s (.returned v) u) :
    ArmFor flags0 classFile x code maxLocals ret World_1 tables_1 room_1 Calls_1 rest_1 Pre_1 Post := by
  intro l hfl _ _ p e ha hc hk s m args below hf hA hF happ hP
  obtain ⟨hcalls, hrest, hpre⟩ := hP
  obtain ⟨-, -, -, hnamed, -, -, -, hat⟩ := (Spec.applies_iff hf).mp happ
  obtain ⟨hg, hn⟩ := and_e (Cond.before_iff.mp (show (Jvm.Cond.and given_1 narrow_1).before args s = true from hpre))
  obtain ⟨g1, g2⟩ := and_e hg
  obtain ⟨g3, g4⟩ := and_e g2
  obtain ⟨g5, g6⟩ := and_e g4
  obtain ⟨g7, g8⟩ := and_e g6
  obtain ⟨g9, g10⟩ := and_e g8
  obtain ⟨g11, g12⟩ := and_e g10
  obtain ⟨w0, w1, w2, w3, w4, w5, rfl⟩ : ∃ w0 w1 w2 w3 w4 w5 : Value, args = #[w0, w1, w2, w3, w4, w5] := by
    have hs : args.size = 6 := by simpa [Cond.value, given_1] using g1
    obtain ⟨L⟩ := args
    match L, hs with
    | [w0, w1, w2, w3, w4, w5], _ => exact ⟨w0, w1, w2, w3, w4, w5, rfl⟩
  have hw := fun d (hd : d ∈ tables_1) => atoms_spec (ws := Jvm.Cond.code x code maxLocals ret :: tables_1) hat d (List.mem_cons_of_mem _ hd)
  have hfit : Fit s := fun {y c} hc i hi => by
    obtain ⟨ha, rfl⟩ := Array.getElem?_eq_some_iff.mp hc
    have q := List.all_eq_true.mp ((Array.all_eq_true_iff_forall_mem.mp hF) _ (Array.getElem_mem ha)) i (List.mem_range.mpr hi)
    simpa [Array.getElem?_eq_getElem hi] using q
  obtain ⟨i0, ei0⟩ := is_v g3
  obtain rfl : w0 = (.int i0) := Option.some.inj ei0
  obtain ⟨i1, ei1⟩ := is_v g5
  obtain rfl : w1 = (.int i1) := Option.some.inj ei1
  obtain ⟨i2, ei2⟩ := is_v g7
  obtain rfl : w2 = (.int i2) := Option.some.inj ei2
  obtain ⟨i3, ei3⟩ := is_v g9
  obtain rfl : w3 = (.int i3) := Option.some.inj ei3
  obtain ⟨i4, ei4⟩ := is_v g11
  obtain rfl : w4 = (.int i4) := Option.some.inj ei4
  obtain ⟨i5, ei5⟩ := is_v g12
  obtain rfl : w5 = (.int i5) := Option.some.inj ei5
  obtain ⟨n, o, h1, h2, h3, _, L, rfl, ⟨rfl, N⟩, hq⟩ := own_law l s _ hw tables_1 i0 i1 i2 i3 i4 i5 s.heap s.heap.size (Nat.le_refl _)  p e ha hc hk s m _ below hf ((Spec.applies_iff_loose hf).mp happ).1 ⟨rfl, State.Warmed39.refl s, rfl⟩ trivial
  refine ⟨n, _, h1, h2, h3, hpost _ _ _ _ _ _ ⟨Cond.after_iff.mpr rfl, Cond.after_iff.mpr (eq_i res_at (Term.int_eval (1)) rfl), trivial⟩ ⟨hq.1, hq.2.1, (hq.2.2.sift fun y hy => Or.inr (N y hy)).mono (by decide) (by decide)⟩⟩
theorem main_1_1 : Claimed_1_1 := comes_1 fun _ _ _ _ _ _ h hF => ⟨h.1, hF⟩
theorem main_1_2 : Claimed_1_2 := comes_1 fun _ _ _ _ _ _ h hF => ⟨h.2.1, hF⟩
end Jvm.Pilot.@@N@@
namespace Jvm.Pilot.@@N@@
open Jvm Jvm.ClassFile Sem Op Lib Jvm.Free Jvm.Stand Jvm.Pilot.@@N@@.Jvm.D
/-! MADE BY PROGRAM (witnessworld.py) out of the Statement's table words and the real class files: 9 classes; the members and pool entries that the words name. The judged class is class 1, her method 1. -/
namespace start1
open Jvm.ClassFile
def u (s : String) : CpInfo := .utf8 (stringToUtf16 s)
/-- a pool by its gaps: so many unusable entries, then the entry; so many at the end -/
def gap : Nat → List CpInfo → List CpInfo
  | 0, r => r
  | n + 1, r => .unusable :: gap n r
def poolList (es : List (Nat × CpInfo)) (last : Nat) : List CpInfo := es.foldr (fun e r => gap e.1 (e.2 :: r)) (gap last [])
def pool (es : List (Nat × CpInfo)) (last : Nat) : Array CpInfo := ⟨poolList es last⟩
def fileOf (pool : Array CpInfo) (this : Nat) (attrs : Array Attribute := #[]) (ms : Array MethodInfo := #[]) (fl : Nat := 33) (sup : Nat := 0) (ifs : Array Nat := #[]) (fds : Array FieldInfo := #[]) : ClassFile where
  minorVersion := 0
  majorVersion := 65
  constantPool := pool
  accessFlags := fl
  thisClass := this
  superClass := sup
  interfaces := ifs
  fields := fds
  methods := ms
  attributes := attrs
def plain (name : String) (sup : Option ClassId) : Class where
  name := name
  kind := .ordinary
  loader := none
  accessFlags := 33
  super := sup
  interfaces := #[]
  cf := none
  fields := #[]
  methods := #[]
  instanceTypes := #[]
  staticTypes := #[]
  resolved := #[]
  callSites := []
  init := .initialized
  statics := none
  mirror := none

def pool0 : Array CpInfo := pool [(5, u "<init>"), (0, u "()V"), (1, .class_ 10), (1, u "java/lang/Object")] 113

def k0c0 : Code := { maxStack := 0, maxLocals := 1, code := object_method_1_code, exceptionTable := #[], attributes := #[] }
def k0m0 : Method := { name := "<init>", desc := "()V", sig := { parameters := [], returnType := none }, accessFlags := 1, code := some k0c0 }
/-- java/lang/Object -/
def k0 : Class := { plain "java/lang/Object" none with
  accessFlags := 33
  interfaces := #[]
  cf := some (fileOf pool0 8 #[] #[{ accessFlags := 1, nameIndex := 5, descriptorIndex := 6, attributes := #[] }] 33 0 #[] #[])
  fields := #[]
  methods := #[k0m0]
  instanceTypes := #[]
  staticTypes := #[]
  resolved := Array.replicate 124 none
  statics := none }

def pool1 : Array CpInfo := pool [(2, .class_ 4), (0, .nameAndType 5 6), (0, u "java/lang/Object"), (0, u "<init>"), (0, u "()V"), (0, .class_ 8), (0, u "com/example/arrivals/arrivals/core/SequenceStatistics"), (0, .methodref 7 3), (0, .methodref 7 11), (0, .nameAndType 12 13), (0, u "add"), (0, u "(DDJ)V"), (0, .methodref 7 15), (0, .nameAndType 16 17), (0, u "expectedRatio"), (0, u "()D"), (0, .class_ 19), (0, u "com/example/arrivals/arrivals/core/SequenceStatisticsExpectedRatioPinLaw"), (2, u "law"), (0, u "(IIIIII)Z")] 3

def k1m0 : Method := { name := "<init>", desc := "()V", sig := { parameters := [], returnType := none }, accessFlags := 1, code := none }
def k1c1 : Code := { maxStack := 7, maxLocals := 23, code := code, exceptionTable := #[], attributes := #[] }
def k1m1 : Method := { name := "law", desc := "(IIIIII)Z", sig := { parameters := [.int, .int, .int, .int, .int, .int], returnType := some .boolean }, accessFlags := 9, code := some k1c1 }
/-- com/example/arrivals/arrivals/core/SequenceStatisticsExpectedRatioPinLaw -/
def k1 : Class := { plain "com/example/arrivals/arrivals/core/SequenceStatisticsExpectedRatioPinLaw" (some 0) with
  accessFlags := 49
  interfaces := #[]
  cf := some (fileOf pool1 18 #[] #[{ accessFlags := 1, nameIndex := 5, descriptorIndex := 6, attributes := #[] }, { accessFlags := 9, nameIndex := 22, descriptorIndex := 23, attributes := #[] }] 49 2 #[] #[])
  fields := #[]
  methods := #[k1m0, k1m1]
  instanceTypes := #[]
  staticTypes := #[]
  resolved := Array.replicate 27 none
  statics := none }

def pool2 : Array CpInfo := pool [(1, .methodref 2 3), (0, .class_ 4), (0, .nameAndType 5 6), (0, u "java/lang/Object"), (0, u "<init>"), (0, u "()V"), (0, .methodref 8 9), (0, .class_ 10), (0, .nameAndType 11 12), (0, u "com/example/arrivals/arrivals/core/SequenceStatistics"), (0, u "meanOnline"), (0, u "()D"), (0, .methodref 8 14), (0, .nameAndType 15 12), (0, u "meanOptimum"), (0, .fieldref 8 17), (0, .nameAndType 18 19), (0, u "count"), (0, u "J"), (0, .fieldref 8 21), (0, .nameAndType 22 23), (0, u "weight"), (0, u "D"), (0, .fieldref 8 25), (0, .nameAndType 26 23), (0, u "sumOnline"), (0, .fieldref 8 28), (0, .nameAndType 29 23), (0, u "sumOptimum"), (0, .fieldref 8 31), (0, .nameAndType 32 23), (0, u "comomentOnline"), (0, .fieldref 8 34), (0, .nameAndType 35 23), (0, u "comomentOptimum"), (0, .fieldref 8 37), (0, .nameAndType 38 23), (0, u "comomentBoth"), (0, .fieldref 8 40), (0, .nameAndType 41 23), (0, u "positiveWeight"), (0, .fieldref 8 43), (0, .nameAndType 44 23), (0, u "weightedRatios"), (0, .fieldref 8 46), (0, .nameAndType 47 23), (0, u "zeroWeight"), (2, .double 9221120237041090560), (11, u "add"), (0, u "(DDJ)V"), (4, u "expectedRatio")] 5

def k2c0 : Code := { maxStack := 1, maxLocals := 1, code := prog_26_method_1_code, exceptionTable := #[], attributes := #[] }
def k2m0 : Method := { name := "<init>", desc := "()V", sig := { parameters := [], returnType := none }, accessFlags := 0, code := some k2c0 }
def k2c1 : Code := { maxStack := 9, maxLocals := 15, code := prog_26_method_2_code, exceptionTable := #[], attributes := #[] }
def k2m1 : Method := { name := "add", desc := "(DDJ)V", sig := { parameters := [.double, .double, .long], returnType := none }, accessFlags := 0, code := some k2c1 }
def k2c2 : Code := { maxStack := 4, maxLocals := 1, code := prog_26_method_5_code, exceptionTable := #[], attributes := #[] }
def k2m2 : Method := { name := "meanOnline", desc := "()D", sig := { parameters := [], returnType := some .double }, accessFlags := 0, code := some k2c2 }
def k2c3 : Code := { maxStack := 4, maxLocals := 1, code := prog_26_method_6_code, exceptionTable := #[], attributes := #[] }
def k2m3 : Method := { name := "meanOptimum", desc := "()D", sig := { parameters := [], returnType := some .double }, accessFlags := 0, code := some k2c3 }
def k2c4 : Code := { maxStack := 4, maxLocals := 1, code := prog_26_method_7_code, exceptionTable := #[], attributes := #[] }
def k2m4 : Method := { name := "expectedRatio", desc := "()D", sig := { parameters := [], returnType := some .double }, accessFlags := 0, code := some k2c4 }
/-- com/example/arrivals/arrivals/core/SequenceStatistics -/
def k2 : Class := { plain "com/example/arrivals/arrivals/core/SequenceStatistics" (some 0) with
  accessFlags := 48
  interfaces := #[]
  cf := some (fileOf pool2 8 #[] #[{ accessFlags := 0, nameIndex := 5, descriptorIndex := 6, attributes := #[] }, { accessFlags := 0, nameIndex := 62, descriptorIndex := 63, attributes := #[] }, { accessFlags := 0, nameIndex := 11, descriptorIndex := 12, attributes := #[] }, { accessFlags := 0, nameIndex := 15, descriptorIndex := 12, attributes := #[] }, { accessFlags := 0, nameIndex := 68, descriptorIndex := 12, attributes := #[] }] 48 2 #[] #[{ accessFlags := 2, nameIndex := 18, descriptorIndex := 19, attributes := #[] }, { accessFlags := 2, nameIndex := 22, descriptorIndex := 23, attributes := #[] }, { accessFlags := 2, nameIndex := 26, descriptorIndex := 23, attributes := #[] }, { accessFlags := 2, nameIndex := 29, descriptorIndex := 23, attributes := #[] }, { accessFlags := 2, nameIndex := 32, descriptorIndex := 23, attributes := #[] }, { accessFlags := 2, nameIndex := 35, descriptorIndex := 23, attributes := #[] }, { accessFlags := 2, nameIndex := 38, descriptorIndex := 23, attributes := #[] }, { accessFlags := 2, nameIndex := 41, descriptorIndex := 23, attributes := #[] }, { accessFlags := 2, nameIndex := 44, descriptorIndex := 23, attributes := #[] }, { accessFlags := 2, nameIndex := 47, descriptorIndex := 23, attributes := #[] }])
  fields := #[{ name := "count", type := .long, accessFlags := 2, slot := 0, constantValue := 0 }, { name := "weight", type := .double, accessFlags := 2, slot := 1, constantValue := 0 }, { name := "sumOnline", type := .double, accessFlags := 2, slot := 2, constantValue := 0 }, { name := "sumOptimum", type := .double, accessFlags := 2, slot := 3, constantValue := 0 }, { name := "comomentOnline", type := .double, accessFlags := 2, slot := 4, constantValue := 0 }, { name := "comomentOptimum", type := .double, accessFlags := 2, slot := 5, constantValue := 0 }, { name := "comomentBoth", type := .double, accessFlags := 2, slot := 6, constantValue := 0 }, { name := "positiveWeight", type := .double, accessFlags := 2, slot := 7, constantValue := 0 }, { name := "weightedRatios", type := .double, accessFlags := 2, slot := 8, constantValue := 0 }, { name := "zeroWeight", type := .double, accessFlags := 2, slot := 9, constantValue := 0 }]
  methods := #[k2m0, k2m1, k2m2, k2m3, k2m4]
  instanceTypes := #[.long, .double, .double, .double, .double, .double, .double, .double, .double, .double]
  staticTypes := #[]
  resolved := Array.replicate 74 none
  statics := none }

def pool3 : Array CpInfo := pool [(1, u "java/lang/Cloneable"), (0, .class_ 1), (0, u "java/lang/Object"), (0, .class_ 3)] 3

/-- java/lang/Cloneable -/
def k3 : Class := { plain "java/lang/Cloneable" (some 0) with
  accessFlags := 1537
  interfaces := #[]
  cf := some (fileOf pool3 2 #[] #[] 1537 4 #[] #[])
  fields := #[]
  methods := #[]
  instanceTypes := #[]
  staticTypes := #[]
  resolved := Array.replicate 8 none
  statics := none }

def pool4 : Array CpInfo := pool [(1, u "java/io/Serializable"), (0, .class_ 1), (0, u "java/lang/Object"), (0, .class_ 3)] 3

/-- java/io/Serializable -/
def k4 : Class := { plain "java/io/Serializable" (some 0) with
  accessFlags := 1537
  interfaces := #[]
  cf := some (fileOf pool4 2 #[] #[] 1537 4 #[] #[])
  fields := #[]
  methods := #[]
  instanceTypes := #[]
  staticTypes := #[]
  resolved := Array.replicate 8 none
  statics := none }

/-- the primitive byte -/
def k5 : Class := { plain "byte" none with kind := .primitive 'B', accessFlags := 0x411 }
/-- [B -/
def k6 : Class := { plain "[B" (some 0) with kind := .array 5 .byte, interfaces := #[3, 4], accessFlags := 1041 }

/-- the primitive int -/
def k7 : Class := { plain "int" none with kind := .primitive 'I', accessFlags := 0x411 }
/-- [I -/
def k8 : Class := { plain "[I" (some 0) with kind := .array 7 .int, interfaces := #[3, 4], accessFlags := 1041 }

def heap : Heap := #[]
def classes : Array Class := #[k0, k1, k2, k3, k4, k5, k6, k7, k8]
def interned : List (Array UInt16 × Addr) := []
def slotsUsed : Nat := 0
def theMethod : MethodId := ⟨1, 1⟩
def args0 : Array Value := #[.int 5, .int 7, .int 3, .int 2, .int 2000, .int 3000]
def aboutOver (below : List Frame) : State where
  vm := { classes := classes, interned := interned.toArray }
  heap := heap
  slotsUsed := slotsUsed
  threads := #[{ frames := .invoking theMethod args0 :: below }]
def below0 : List Frame := [.native { method := ⟨0, 0⟩, args := #[] }]
def about1 : State := aboutOver below0
def p0 : Program := .bare "" "" ""
def e0 : Env := launch0.env 0 0 0
theorem w_frames : about1.frames = Frame.invoking theMethod args0 :: below0 := rfl
set_option maxRecDepth 65536 in
theorem w_args : argsFit about1.vm theMethod args0 = true := by decide +kernel
set_option maxRecDepth 65536 in
theorem w_heap : heapFits about1 = true := by decide +kernel
set_option maxRecDepth 65536 in
theorem w_runnable : about1.curStatus? = some .runnable := by decide +kernel
set_option maxRecDepth 65536 in
theorem w_alone : about1.alone = true := by decide +kernel
set_option maxRecDepth 65536 in
theorem w_named : about1.methodNamed? x = some theMethod := by decide +kernel
set_option maxRecDepth 65536 in
theorem w_hears : about1.hears theMethod below0 = true := by decide +kernel
set_option maxRecDepth 65536 in
theorem w_ripe : about1.ripe theMethod args0 below0 = true := by decide +kernel
theorem w_running : about1.status = .running := rfl
set_option maxRecDepth 65536 in
theorem w_room : about1.hasRoom e0.platform room_1 = true :=
  launch0.hasRoom_least _ room_1 (by decide +kernel) (by decide +kernel) (by decide +kernel) (by decide +kernel) (by decide +kernel) (by decide +kernel)
theorem allAtoms_all (ts : List Jvm.Cond) (a : Array Jvm.Value) (st : Jvm.State) : (allAtoms ts).before a st = ts.all (fun c => c.before a st) := by
  induction ts with
  | nil => rfl
  | cons c t ih =>
    show (Jvm.Cond.and c (allAtoms t)).before a st = _
    rw [Jvm.Cond.before_and, ih, List.all_cons]
def words1 : List Jvm.Cond := Jvm.Cond.code x code maxLocals ret :: tables_1
/-- a 'code' word, met by the world's own term for the bytes: nothing is compared byte by byte -/
theorem code_word {y : MethodName} {bytes : ByteArray} {mx : Nat} {rt : Option FieldType} {a : Array Value} {s : State} {m : MethodId} {meth : Method} {c : Code} (h1 : s.methodNamed? y = some m) (h2 : s.vm.method? m = some meth) (h3 : meth.code = some c) (h4 : c.code = bytes)
    (h5 : (c.maxLocals == mx && c.exceptionTable.isEmpty && decide (c.maxStack ≤ mostOperands) && decide (meth.sig.returnType = rt) && !meth.locks && decide (parseMethodDescriptor y.desc = some meth.sig)) = true) : (Jvm.Cond.code y bytes mx rt).before a s = true := by
  simp only [Bool.and_eq_true, beq_iff_eq, Bool.not_eq_true', decide_eq_true_eq] at h5
  obtain ⟨⟨⟨⟨⟨g1, g2⟩, g3⟩, g4⟩, g5⟩, g6⟩ := h5
  simp [Cond.before, Cond.holds, Cond.value, h1, h2, h3, h4, g1, g2, g3, g4, g5, g6]
def isCode : Jvm.Cond → Bool
  | .code _ _ _ _ => true
  | _ => false
theorem all_split {L : List Jvm.Cond} {P : Jvm.Cond → Bool} (h1 : L.all (fun c => isCode c || P c) = true) (h2 : ∀ c ∈ L.filter isCode, P c = true) : L.all P = true := by
  refine List.all_eq_true.mpr fun c hc => ?_
  have h := List.all_eq_true.mp h1 c hc
  rcases Bool.eq_false_or_eq_true (isCode c) with hi | hi
  · exact h2 c (List.mem_filter.mpr ⟨hc, hi⟩)
  · simpa [hi] using h
set_option maxRecDepth 65536 in
theorem w_c0 : (Jvm.Cond.code x code maxLocals ret).before args0 about1 = true := code_word (m := ⟨1, 1⟩) (meth := k1m1) (c := k1c1) (by decide +kernel) rfl rfl rfl (by decide +kernel)
set_option maxRecDepth 65536 in
theorem w_c1 : (Jvm.Cond.code ({ cls := "com/example/arrivals/arrivals/core/SequenceStatistics", name := "<init>", desc := "()V" } : Jvm.MethodName) prog_26_method_1_code (1 : Nat) (Option.none : Option Jvm.ClassFile.FieldType)).before args0 about1 = true := code_word (m := ⟨2, 0⟩) (meth := k2m0) (c := k2c0) (by decide +kernel) rfl rfl rfl (by decide +kernel)
set_option maxRecDepth 65536 in
theorem w_c2 : (Jvm.Cond.code ({ cls := "java/lang/Object", name := "<init>", desc := "()V" } : Jvm.MethodName) object_method_1_code (1 : Nat) (Option.none : Option Jvm.ClassFile.FieldType)).before args0 about1 = true := code_word (m := ⟨0, 0⟩) (meth := k0m0) (c := k0c0) (by decide +kernel) rfl rfl rfl (by decide +kernel)
set_option maxRecDepth 65536 in
theorem w_c3 : (Jvm.Cond.code ({ cls := "com/example/arrivals/arrivals/core/SequenceStatistics", name := "expectedRatio", desc := "()D" } : Jvm.MethodName) prog_26_method_7_code (1 : Nat) (Option.some Jvm.ClassFile.FieldType.double)).before args0 about1 = true := code_word (m := ⟨2, 4⟩) (meth := k2m4) (c := k2c4) (by decide +kernel) rfl rfl rfl (by decide +kernel)
set_option maxRecDepth 65536 in
theorem w_c4 : (Jvm.Cond.code ({ cls := "com/example/arrivals/arrivals/core/SequenceStatistics", name := "add", desc := "(DDJ)V" } : Jvm.MethodName) prog_26_method_2_code (15 : Nat) (Option.none : Option Jvm.ClassFile.FieldType)).before args0 about1 = true := code_word (m := ⟨2, 1⟩) (meth := k2m1) (c := k2c1) (by decide +kernel) rfl rfl rfl (by decide +kernel)
set_option maxRecDepth 65536 in
theorem w_c5 : (Jvm.Cond.code ({ cls := "com/example/arrivals/arrivals/core/SequenceStatistics", name := "meanOnline", desc := "()D" } : Jvm.MethodName) prog_26_method_5_code (1 : Nat) (Option.some Jvm.ClassFile.FieldType.double)).before args0 about1 = true := code_word (m := ⟨2, 2⟩) (meth := k2m2) (c := k2c2) (by decide +kernel) rfl rfl rfl (by decide +kernel)
set_option maxRecDepth 65536 in
theorem w_c6 : (Jvm.Cond.code ({ cls := "com/example/arrivals/arrivals/core/SequenceStatistics", name := "meanOptimum", desc := "()D" } : Jvm.MethodName) prog_26_method_6_code (1 : Nat) (Option.some Jvm.ClassFile.FieldType.double)).before args0 about1 = true := code_word (m := ⟨2, 3⟩) (meth := k2m3) (c := k2c3) (by decide +kernel) rfl rfl rfl (by decide +kernel)
def codes1 : List Jvm.Cond := [Jvm.Cond.code x code maxLocals ret, Jvm.Cond.code ({ cls := "com/example/arrivals/arrivals/core/SequenceStatistics", name := "<init>", desc := "()V" } : Jvm.MethodName) prog_26_method_1_code (1 : Nat) (Option.none : Option Jvm.ClassFile.FieldType), Jvm.Cond.code ({ cls := "java/lang/Object", name := "<init>", desc := "()V" } : Jvm.MethodName) object_method_1_code (1 : Nat) (Option.none : Option Jvm.ClassFile.FieldType), Jvm.Cond.code ({ cls := "com/example/arrivals/arrivals/core/SequenceStatistics", name := "expectedRatio", desc := "()D" } : Jvm.MethodName) prog_26_method_7_code (1 : Nat) (Option.some Jvm.ClassFile.FieldType.double), Jvm.Cond.code ({ cls := "com/example/arrivals/arrivals/core/SequenceStatistics", name := "add", desc := "(DDJ)V" } : Jvm.MethodName) prog_26_method_2_code (15 : Nat) (Option.none : Option Jvm.ClassFile.FieldType), Jvm.Cond.code ({ cls := "com/example/arrivals/arrivals/core/SequenceStatistics", name := "meanOnline", desc := "()D" } : Jvm.MethodName) prog_26_method_5_code (1 : Nat) (Option.some Jvm.ClassFile.FieldType.double), Jvm.Cond.code ({ cls := "com/example/arrivals/arrivals/core/SequenceStatistics", name := "meanOptimum", desc := "()D" } : Jvm.MethodName) prog_26_method_6_code (1 : Nat) (Option.some Jvm.ClassFile.FieldType.double)]
set_option maxRecDepth 65536 in
theorem codes_eq : words1.filter isCode = codes1 := rfl
theorem w_codes : ∀ c ∈ words1.filter isCode, c.before args0 about1 = true := by
  rw [codes_eq]
  intro c hc
  simp only [codes1, List.mem_cons, List.not_mem_nil, or_false] at hc
  rcases hc with rfl | rfl | rfl | rfl | rfl | rfl | rfl
  · exact w_c0
  · exact w_c1
  · exact w_c2
  · exact w_c3
  · exact w_c4
  · exact w_c5
  · exact w_c6
set_option maxRecDepth 65536 in
theorem w_t1 : (words1.take 24).all (fun c => isCode c || c.before args0 about1) = true := by decide +kernel
set_option maxRecDepth 65536 in
theorem w_t2 : ((words1.drop 24).take 24).all (fun c => isCode c || c.before args0 about1) = true := by decide +kernel
set_option maxRecDepth 65536 in
theorem w_t3 : ((words1.drop 24).drop 24).all (fun c => isCode c || c.before args0 about1) = true := by decide +kernel
theorem w_tables : (allAtoms (Jvm.Cond.code x code maxLocals ret :: tables_1)).before args0 about1 = true := by
  rw [allAtoms_all]
  show words1.all (fun c => c.before args0 about1) = true
  refine all_split ?_ w_codes
  rw [← List.take_append_drop 24 words1, List.all_append, w_t1, ← List.take_append_drop 24 (words1.drop 24), List.all_append, w_t2, w_t3]
  rfl
set_option maxRecDepth 65536 in
theorem w_case : (Jvm.Cond.and given_1 narrow_1).before args0 about1 = true := by decide +kernel
theorem w_applies : (headSpec (Jvm.Cond.code x code maxLocals ret :: tables_1) room_1).applies x e0.platform about1 = true :=
  (Spec.applies_iff w_frames).mpr ⟨w_running, w_runnable, w_alone, w_named, w_hears, w_ripe, w_room, w_tables⟩
theorem atStart : AtStart classFile x code maxLocals ret World_1 tables_1 room_1 Calls_1 rest_1 Pre_1 launch0 p0 e0 about1 theMethod args0 below0 :=
  ⟨lists_1, trivial, launch0.admits_env _ _ _, launch0.least_env, fairChoices_fair.cas, fairChoices_fair.clock, w_frames, w_args, w_heap, w_applies, trivial, trivial, w_case⟩
end start1
theorem witness_1 : WitnessClaimed_1 := ⟨start1.p0, start1.e0, start1.about1, start1.theMethod, start1.args0, start1.below0, start1.atStart⟩
end Jvm.Pilot.@@N@@
