import JvmDerived
import JvmDerived.Pilot.@@N@@Statement
import JvmDerived.Pilot.@@N@@Code
set_option linter.unusedVariables false
set_option linter.unusedSimpArgs false
namespace Jvm.RoadKit
open Sem ClassFile Op Lib Jvm.Stand Jvm.Free Jvm.LawKit
section Own
variable {p : Program} {l : Launch} {e : Env} {R : Room} {s : State} {m : MethodId} {args : Array Value} {below : List Frame} {meth : Method} {c : Code} {T : State} {locs : List Loc} {cells slots : Nat}
theorem own_ni0 {a : Addr} : a ∉ ([] : List Addr) := List.not_mem_nil
theorem own_niS {a b : Addr} {ws : List Addr} (h : a ≠ b) (r : a ∉ ws) : a ∉ b :: ws := fun q => (List.mem_cons.mp q).elim h r
theorem own_all0 {P : Addr → Prop} : ∀ x ∈ ([] : List Addr), P x := fun _ q => nomatch q
theorem own_allS {P : Addr → Prop} {b : Addr} {ws : List Addr} (h : P b) (r : ∀ x ∈ ws, P x) : ∀ x ∈ b :: ws, P x := fun x q => (List.mem_cons.mp q).elim (fun e => e ▸ h) (r x)
theorem own_lremM {g : JFrame} {target : State} (X : Stand p l e R s m args below meth c T locs cells slots) (hx : p.tables.exec = Jvm.exec) (hg : g.method = m) {x y : Int64} {rest : List Value} (hd : decode c.code g.pc = .ok (.lrem, 1)) (hs : g.stack = .long y :: .long x :: rest) (hy : y ≠ 0)
    (hr : Steps p.tables e below (T.setTop { g with pc := g.pc + 1, stack := .long (x % y) :: rest }) target) : Steps p.tables e below (T.setTop g) target :=
  XS.lrem X.here hx hg hd hs hy (by rw [lrem_mod]; exact hr)
end Own
end Jvm.RoadKit
namespace Jvm.OwnFP
open Jvm.FP Jvm.FP.Core Jvm.Free.Fl
/-- a double's worth, in units of the least positive double -/
def zv (x : UInt64) : Int := zval b64 (val64 x)
/-- x is finite and is the number i / D -/
def Ra (i : Int) (D : Nat) (x : UInt64) : Prop := DFin x ∧ zv x * (D : Int) = i * (one64 : Int)
theorem Ra.fin {i : Int} {D : Nat} {x : UInt64} (h : Ra i D x) : Fin64 x := fin64_core.mpr h.1
theorem Ra.nn {i : Int} {D : Nat} {x : UInt64} (h : Ra i D x) : NoNaN64 x := h.fin.noNaN
theorem Ra.ne_nan {i : Int} {D : Nat} {x : UInt64} (h : Ra i D x) : val64 x ≠ .nan := h.1.ne_nan
theorem oz : (0 : Int) < (one64 : Int) := Int.natCast_pos.mpr one64_pos
theorem nan_of {x : UInt64} (h : NoNaN64 x) : val64 x ≠ .nan := (notNaN_iff x).mp (noNaN64_no.mp h)
theorem mulc {a b c : Int} (hc : c ≠ 0) (h : a * c = b * c) : a = b := Int.eq_of_mul_eq_mul_right hc h
theorem al_scale {z D D' i i' o : Int} (h : z * D = i * o) (e : i * D' = i' * D) : z * D' * D = i' * o * D := by
  calc z * D' * D = z * D * D' := by ac_rfl
    _ = i * o * D' := by rw [h]
    _ = i * D' * o := by ac_rfl
    _ = i' * o * D := by rw [e]; ac_rfl
theorem al_mul {x y v D E i j o : Int} (hx : x * D = i * o) (hy : y * E = j * o) (hv : v * (D * E) = i * j * o) : x * y * (D * E) = v * o * (D * E) := by
  calc x * y * (D * E) = (x * D) * (y * E) := by ac_rfl
    _ = (i * o) * (j * o) := by rw [hx, hy]
    _ = (i * j * o) * o := by ac_rfl
    _ = v * (D * E) * o := by rw [hv]
    _ = v * o * (D * E) := by ac_rfl
theorem al_mulr {x y v D E F i j r o : Int} (hx : x * D = i * o) (hy : y * E = j * o) (hv : v * F = r * o) (h : i * j * F = r * (D * E)) : x * y * D * E * F = v * o * D * E * F := by
  calc x * y * D * E * F = (x * D) * (y * E) * F := by ac_rfl
    _ = (i * j * F) * (o * o) := by rw [hx, hy]; ac_rfl
    _ = (r * o) * o * (D * E) := by rw [h]; ac_rfl
    _ = (v * F) * o * (D * E) := by rw [hv]
    _ = v * o * D * E * F := by ac_rfl
theorem al_div {x y v D E F i j r o : Int} (hx : x * D = i * o) (hy : y * E = j * o) (hv : v * F = r * o) (h : i * E * F = r * (j * D)) : x * o * D * E * F = v * y * D * E * F := by
  calc x * o * D * E * F = (x * D) * (o * E * F) := by ac_rfl
    _ = (i * E * F) * (o * o) := by rw [hx]; ac_rfl
    _ = (r * o) * (j * o) * D := by rw [h]; ac_rfl
    _ = (v * F) * (y * E) * D := by rw [hv, hy]
    _ = v * y * D * E * F := by ac_rfl
theorem al_units {V d P Q : Nat} : V * P * d * Q = (V * (d * Q)) * P := by ac_rfl
theorem al_mag {i P D o : Nat} (h : i ≤ P * D) : i * o ≤ P * o * D := by
  calc i * o ≤ P * D * o := Nat.mul_le_mul_right _ h
    _ = P * o * D := by ac_rfl
theorem rep {i : Int} {D k : Nat} (hi : i.natAbs < 9007199254740992) (hD : D = 2 ^ k) (hk : k ≤ 1000) : ∃ V, Ra i D V := by
  have hc : i.natAbs < 2 ^ b64.p := by rw [show (2 : Nat) ^ b64.p = 9007199254740992 by decide +kernel]; exact hi
  have hq2 : b64.qmax = 971 := by decide
  obtain ⟨c', q', h1, h2⟩ := round_exact good_b64 (decide (i < 0)) (c := i.natAbs) (q := -(k : Int)) hc (by rw [qmin_b64]; omega) (by rw [hq2]; omega)
  refine ⟨of64 (round b64 (.fin (decide (i < 0)) i.natAbs (-(k : Int)))), ⟨_, _, _, by rw [val64_of64 (round_fits good_b64 _), h1]⟩, ?_⟩
  unfold zv
  rw [val64_of64 (round_fits good_b64 _), h1]
  show signed (decide (i < 0)) (inUnits c' q' b64.qmin) * _ = _
  rw [h2]
  unfold inUnits
  have e1 : signed (decide (i < 0)) i.natAbs = i := by unfold signed; by_cases h : i < 0 <;> simp [h] <;> omega
  have e2 : (-(k : Int) - b64.qmin).toNat + k = 1074 := by rw [qmin_b64]; omega
  rw [signed_mul, e1, Int.mul_assoc, hD, ← Int.natCast_mul, ← Nat.pow_add, e2]
  rfl
theorem fin_of {x V : UInt64} (hn : val64 x ≠ .nan) (hV : DFin V) (h : zv x = zv V) : DFin x := by
  cases hx : val64 x with
  | nan => exact absurd hx hn
  | fin s c q => exact ⟨s, c, q, hx⟩
  | inf s =>
    exfalso
    have h1 := hV.zval_lt
    unfold zv zval at h
    rw [hx] at h
    have h2 := congrArg Int.natAbs h
    rw [natAbs_signed, natAbs_signed] at h2
    exact absurd h2.symm (Nat.ne_of_lt h1)
theorem Ra.scale {i i' : Int} {D D' : Nat} {x : UInt64} (h : Ra i D x) (hD : 0 < D) (e : i * (D' : Int) = i' * (D : Int)) : Ra i' D' x := by
  exact ⟨h.1, mulc (c := (D : Int)) (by omega) (al_scale h.2 e)⟩
theorem Ra.same {i i' : Int} {D : Nat} {x : UInt64} (h : Ra i D x) (e : i = i') : Ra i' D x := e ▸ h
theorem Ra.add {i j : Int} {D k : Nat} {x y : UInt64} (hx : Ra i D x) (hy : Ra j D y) (h : (i + j).natAbs < 9007199254740992) (hD : D = 2 ^ k) (hk : k ≤ 1000) : Ra (i + j) D (FP.dadd x y) := by
  obtain ⟨V, hV⟩ := rep h hD hk
  have hD0 : (D : Int) ≠ 0 := by rw [hD]; exact Int.ne_of_gt (Int.natCast_pos.mpr (Nat.two_pow_pos k))
  have hs : zval b64 (val64 x) + zval b64 (val64 y) = zval b64 (val64 V) := mulc hD0 (by
    have a := hx.2; have b := hy.2; have c := hV.2
    unfold zv at a b c
    rw [Int.add_mul, a, b, c, Int.add_mul])
  have hz : zv (Core.dadd x y) = zv V := by
    unfold zv
    rw [val64_dadd]
    exact Int.le_antisymm (sum_le good_b64 hx.1 hy.1 (val64_fits x) (val64_fits y) (val64_fits V) hV.ne_nan (Int.le_of_eq hs)) (sum_ge good_b64 hx.1 hy.1 (val64_fits x) (val64_fits y) (val64_fits V) hV.ne_nan (Int.le_of_eq hs.symm))
  exact ⟨fin_of ((notNaN_iff _).mp (dadd_out hx.1.notNaN hy.1)) hV.1 hz, by show zv (Core.dadd x y) * _ = _; rw [hz, hV.2]⟩
theorem fin_negate {x : UInt64} (h : DFin x) : ∃ s c q, negate (val64 x) = .fin s c q := by
  obtain ⟨s, c, q, h⟩ := h; exact ⟨!s, c, q, by rw [h]; rfl⟩
theorem Ra.sub {i j : Int} {D k : Nat} {x y : UInt64} (hx : Ra i D x) (hy : Ra j D y) (h : (i - j).natAbs < 9007199254740992) (hD : D = 2 ^ k) (hk : k ≤ 1000) : Ra (i - j) D (FP.dsub x y) := by
  obtain ⟨V, hV⟩ := rep h hD hk
  have hD0 : (D : Int) ≠ 0 := by rw [hD]; exact Int.ne_of_gt (Int.natCast_pos.mpr (Nat.two_pow_pos k))
  have hs : zval b64 (val64 x) + zval b64 (negate (val64 y)) = zval b64 (val64 V) := mulc hD0 (by
    have a := hx.2; have b := hy.2; have c := hV.2
    unfold zv at a b c
    rw [zval_negate, Int.add_mul, Int.neg_mul, a, b, c, Int.sub_mul]
    omega)
  have hz : zv (Core.dsub x y) = zv V := by
    unfold zv
    rw [val64_dsub]
    exact Int.le_antisymm (sum_le good_b64 hx.1 (fin_negate hy.1) (val64_fits x) (negate_fits (val64_fits y)) (val64_fits V) hV.ne_nan (Int.le_of_eq hs)) (sum_ge good_b64 hx.1 (fin_negate hy.1) (val64_fits x) (negate_fits (val64_fits y)) (val64_fits V) hV.ne_nan (Int.le_of_eq hs.symm))
  exact ⟨fin_of ((notNaN_iff _).mp (dsub_out hx.1.notNaN hy.1)) hV.1 hz, by show zv (Core.dsub x y) * _ = _; rw [hz, hV.2]⟩
theorem qq : (b64.qmin - 2 * b64.qmin).toNat = (-b64.qmin).toNat := by rw [qmin_b64]; decide
/-- a product, held against a double -/
theorem mul_le {x y V : UInt64} (hx : DFin x) (hy : DFin y) (hV : val64 V ≠ .nan) (h : zv x * zv y ≤ zv V * (one64 : Int)) : zv (Core.dmul x y) ≤ zv V := by
  obtain ⟨s, c, q, ex⟩ := hx
  obtain ⟨t, d, r, ey⟩ := hy
  have fx := val64_fits x; have fy := val64_fits y
  rw [ex] at fx; rw [ey] at fy
  obtain ⟨p1, p2, p3⟩ := product_units fx fy
  unfold zv at h ⊢
  rw [val64_dmul, ex, ey, p1]
  rw [ex, ey] at h
  exact zval_round_le good_b64 (val64_fits V) hV (e0 := 2 * b64.qmin) (by rw [qmin_b64]; decide) p2 (by rw [p3, signed_xor, qq, pow_qmin64]; exact h)
theorem mul_ge {x y V : UInt64} (hx : DFin x) (hy : DFin y) (hV : val64 V ≠ .nan) (h : zv V * (one64 : Int) ≤ zv x * zv y) : zv V ≤ zv (Core.dmul x y) := by
  obtain ⟨s, c, q, ex⟩ := hx
  obtain ⟨t, d, r, ey⟩ := hy
  have fx := val64_fits x; have fy := val64_fits y
  rw [ex] at fx; rw [ey] at fy
  obtain ⟨p1, p2, p3⟩ := product_units fx fy
  unfold zv at h ⊢
  rw [val64_dmul, ex, ey, p1]
  rw [ex, ey] at h
  exact zval_round_ge good_b64 (val64_fits V) hV (e0 := 2 * b64.qmin) (by rw [qmin_b64]; decide) p2 (by rw [p3, signed_xor, qq, pow_qmin64]; exact h)
/-- the product's worth, where it is a double's -/
theorem mul_zv {x y V : UInt64} (hx : DFin x) (hy : DFin y) (hV : val64 V ≠ .nan) (h : zv x * zv y = zv V * (one64 : Int)) : zv (Core.dmul x y) = zv V :=
  Int.le_antisymm (mul_le hx hy hV (Int.le_of_eq h)) (mul_ge hx hy hV (Int.le_of_eq h.symm))
theorem Ra.mul {i j : Int} {D E k : Nat} {x y : UInt64} (hx : Ra i D x) (hy : Ra j E y) (h : (i * j).natAbs < 9007199254740992) (hD : D * E = 2 ^ k) (hk : k ≤ 1000) : Ra (i * j) (D * E) (FP.dmul x y) := by
  obtain ⟨V, hV⟩ := rep h hD hk
  have hD0 : ((D * E : Nat) : Int) ≠ 0 := by rw [hD]; exact Int.ne_of_gt (Int.natCast_pos.mpr (Nat.two_pow_pos k))
  have hv := hV.2
  rw [Int.natCast_mul] at hv hD0
  have hs : zv x * zv y = zv V * (one64 : Int) := mulc hD0 (al_mul hx.2 hy.2 hv)
  have hz : zv (Core.dmul x y) = zv V := mul_zv hx.1 hy.1 hV.ne_nan hs
  exact ⟨fin_of ((notNaN_iff _).mp (dmul_out hx.1 hy.1)) hV.1 hz, by show zv (Core.dmul x y) * _ = _; rw [hz, hV.2]⟩
/-- a product written in its least terms -/
theorem Ra.mulr {i j r : Int} {D E F k : Nat} {x y : UInt64} (hx : Ra i D x) (hy : Ra j E y) (hD : 0 < D) (hE : 0 < E) (hr : r.natAbs < 9007199254740992) (hF : F = 2 ^ k) (hk : k ≤ 1000) (h : i * j * (F : Int) = r * ((D : Int) * (E : Int))) : Ra r F (FP.dmul x y) := by
  obtain ⟨V, hV⟩ := rep hr hF hk
  have hF0 : (F : Int) ≠ 0 := by rw [hF]; exact Int.ne_of_gt (Int.natCast_pos.mpr (Nat.two_pow_pos k))
  have hs : zv x * zv y = zv V * (one64 : Int) := by
    exact mulc (c := (D : Int)) (by omega) (mulc (c := (E : Int)) (by omega) (mulc hF0 (al_mulr hx.2 hy.2 hV.2 h)))
  have hz : zv (Core.dmul x y) = zv V := mul_zv hx.1 hy.1 hV.ne_nan hs
  exact ⟨fin_of ((notNaN_iff _).mp (dmul_out hx.1 hy.1)) hV.1 hz, by show zv (Core.dmul x y) * _ = _; rw [hz, hV.2]⟩
theorem zv_abs (x : UInt64) : (zv x).natAbs = zmag b64 (val64 x) := by unfold zv zval; rw [natAbs_signed]
/-- the quotient's parts -/
theorem div_parts {x y : UInt64} (hx : DFin x) (hy : DFin y) (hz : zv y ≠ 0) : ∃ s t c d q r, val64 x = .fin s c q ∧ val64 y = .fin t d r ∧ 0 < d ∧ b64.qmin ≤ q ∧ b64.qmin ≤ r ∧ zmag b64 (val64 x) = c * 2 ^ (q - b64.qmin).toNat ∧ zmag b64 (val64 y) = d * 2 ^ (r - b64.qmin).toNat ∧ val64 (Core.ddiv x y) = roundRatio b64 (s != t) c d (q - r) := by
  obtain ⟨s, c, q, ex⟩ := hx
  obtain ⟨t, d, r, ey⟩ := hy
  have fx := val64_fits x; have fy := val64_fits y
  rw [ex] at fx; rw [ey] at fy
  have hd : d ≠ 0 := fun h => hz (by unfold zv; rw [ey, h]; simp [zval, zmag, sgn, inUnits, signed])
  refine ⟨s, t, c, d, q, r, ex, ey, Nat.pos_of_ne_zero hd, fx.2.1, fy.2.1, by rw [ex]; rfl, by rw [ey]; rfl, ?_⟩
  rw [val64_ddiv, ex, ey]
  show (if d = 0 then _ else roundRatio b64 (s != t) c d (q - r)) = _
  rw [if_neg hd]
theorem div_units {c d V : Nat} {q r e : Int} (hq : b64.qmin ≤ q) (hr : b64.qmin ≤ r) (h1 : e ≤ b64.qmin) (h2 : e ≤ q - r) :
    inUnits c (q - r) e * 2 ^ (r - b64.qmin).toNat = (c * 2 ^ (q - b64.qmin).toNat * one64) * 2 ^ (b64.qmin - e).toNat ∧
      V * 2 ^ (b64.qmin - e).toNat * d * 2 ^ (r - b64.qmin).toNat = (V * (d * 2 ^ (r - b64.qmin).toNat)) * 2 ^ (b64.qmin - e).toNat := by
  refine ⟨?_, al_units⟩
  have hn : b64.qmin < 0 := by rw [qmin_b64]; decide
  unfold inUnits
  rw [← pow_qmin64, Nat.mul_assoc, Nat.mul_assoc, Nat.mul_assoc, ← Nat.pow_add, ← Nat.pow_add, ← Nat.pow_add]
  congr 2
  omega
theorem div_mag_le {x y V : UInt64} (hx : DFin x) (hy : DFin y) (hz : zv y ≠ 0) (hV : val64 V ≠ .nan) (h : (zv x).natAbs * one64 ≤ (zv V).natAbs * (zv y).natAbs) : (zv (Core.ddiv x y)).natAbs ≤ (zv V).natAbs := by
  obtain ⟨s, t, c, d, q, r, ex, ey, hd, hq, hr, mx, my, hv⟩ := div_parts hx hy hz
  rw [zv_abs, zv_abs, hv]
  rw [zv_abs, zv_abs, zv_abs, mx, my] at h
  refine zmag_roundRatio_le good_b64 hd (val64_fits V) hV (e0 := min b64.qmin (q - r)) (by omega) (by omega) ?_
  obtain ⟨u1, u2⟩ := div_units (c := c) (d := d) (V := zmag b64 (val64 V)) hq hr (e := min b64.qmin (q - r)) (by omega) (by omega)
  refine Nat.le_of_mul_le_mul_right (c := 2 ^ (r - b64.qmin).toNat) ?_ (Nat.two_pow_pos _)
  rw [u1, u2]
  exact Nat.mul_le_mul_right _ h
theorem div_mag_ge {x y V : UInt64} (hx : DFin x) (hy : DFin y) (hz : zv y ≠ 0) (h : (zv V).natAbs * (zv y).natAbs ≤ (zv x).natAbs * one64) : (zv V).natAbs ≤ (zv (Core.ddiv x y)).natAbs := by
  obtain ⟨s, t, c, d, q, r, ex, ey, hd, hq, hr, mx, my, hv⟩ := div_parts hx hy hz
  rw [zv_abs, zv_abs, hv]
  rw [zv_abs, zv_abs, zv_abs, mx, my] at h
  refine zmag_roundRatio_ge good_b64 hd (val64_fits V) (e0 := min b64.qmin (q - r)) (by omega) (by omega) ?_
  obtain ⟨u1, u2⟩ := div_units (c := c) (d := d) (V := zmag b64 (val64 V)) hq hr (e := min b64.qmin (q - r)) (by omega) (by omega)
  refine Nat.le_of_mul_le_mul_right (c := 2 ^ (r - b64.qmin).toNat) ?_ (Nat.two_pow_pos _)
  rw [u1, u2]
  exact Nat.mul_le_mul_right _ h
theorem zv_sgn (x : UInt64) : zv x = signed (sgn (val64 x)) (zv x).natAbs := by rw [zv_abs]; rfl
theorem div_sgn {x y : UInt64} (hx : DFin x) (hy : DFin y) (hz : zv y ≠ 0) : sgn (val64 (Core.ddiv x y)) = (sgn (val64 x) != sgn (val64 y)) := by
  obtain ⟨s, t, c, d, q, r, ex, ey, -, -, -, -, -, hv⟩ := div_parts hx hy hz
  rw [hv, sgn_roundRatio, ex, ey]; rfl
theorem sgn_pos {x : UInt64} (h : 0 < zv x) : sgn (val64 x) = false := by
  rw [zv_sgn] at h
  cases hs : sgn (val64 x) with
  | false => rfl
  | true => rw [hs] at h; simp [signed] at h; omega
theorem div_nonneg {x y : UInt64} (hx : DFin x) (hy : DFin y) (h1 : 0 < zv x) (h2 : 0 < zv y) : zv (Core.ddiv x y) = ((zv (Core.ddiv x y)).natAbs : Int) := by
  have h := div_sgn hx hy (Int.ne_of_gt h2)
  rw [sgn_pos h1, sgn_pos h2] at h
  rw [zv_sgn (Core.ddiv x y), h]; simp [signed]
theorem div_ge {x y V : UInt64} (hx : DFin x) (hy : DFin y) (h1 : 0 < zv x) (h2 : 0 < zv y) (hV : 0 ≤ zv V) (h : zv V * zv y ≤ zv x * (one64 : Int)) : zv V ≤ zv (Core.ddiv x y) := by
  have k : (zv V).natAbs * (zv y).natAbs ≤ (zv x).natAbs * one64 := by
    have e1 : ((zv V).natAbs : Int) = zv V := by omega
    have e2 : ((zv y).natAbs : Int) = zv y := by omega
    have e3 : ((zv x).natAbs : Int) = zv x := by omega
    refine Int.ofNat_le.mp ?_
    rw [Int.natCast_mul, Int.natCast_mul, e1, e2, e3]; exact h
  have := div_mag_ge hx hy (Int.ne_of_gt h2) k
  rw [div_nonneg hx hy h1 h2]; omega
theorem div_le {x y V : UInt64} (hx : DFin x) (hy : DFin y) (h1 : 0 < zv x) (h2 : 0 < zv y) (hn : val64 V ≠ .nan) (hV : 0 ≤ zv V) (h : zv x * (one64 : Int) ≤ zv V * zv y) : zv (Core.ddiv x y) ≤ zv V := by
  have k : (zv x).natAbs * one64 ≤ (zv V).natAbs * (zv y).natAbs := by
    have e1 : ((zv V).natAbs : Int) = zv V := by omega
    have e2 : ((zv y).natAbs : Int) = zv y := by omega
    have e3 : ((zv x).natAbs : Int) = zv x := by omega
    refine Int.ofNat_le.mp ?_
    rw [Int.natCast_mul, Int.natCast_mul, e1, e2, e3]; exact h
  have := div_mag_le hx hy (Int.ne_of_gt h2) hn k
  rw [div_nonneg hx hy h1 h2]; omega
theorem signed_inj {s t : Bool} {n : Nat} (hn : n ≠ 0) (h : signed s n = signed t n) : s = t := by
  cases s <;> cases t <;> simp [signed] at h ⊢ <;> omega
theorem xor_back {s t v : Bool} (h : s = (v != t)) : (s != t) = v := by cases s <;> cases t <;> cases v <;> simp_all
/-- the quotient's worth, where it is a double's -/
theorem div_zv {x y V : UInt64} (hx : DFin x) (hy : DFin y) (hz : zv y ≠ 0) (hV : DFin V) (h : zv x * (one64 : Int) = zv V * zv y) : zv (Core.ddiv x y) = zv V := by
  have ha : (zv x).natAbs * one64 = (zv V).natAbs * (zv y).natAbs := by
    have := congrArg Int.natAbs h
    rwa [Int.natAbs_mul, Int.natAbs_mul, Int.natAbs_natCast] at this
  have hm : (zv (Core.ddiv x y)).natAbs = (zv V).natAbs := Nat.le_antisymm (div_mag_le hx hy hz hV.ne_nan (Nat.le_of_eq ha)) (div_mag_ge hx hy hz (Nat.le_of_eq ha.symm))
  rw [zv_sgn (Core.ddiv x y), hm, div_sgn hx hy hz]
  by_cases h0 : (zv V).natAbs = 0
  · rw [h0, Int.natAbs_eq_zero.mp h0]; exact signed_zero _
  · have k : signed (sgn (val64 x)) ((zv x).natAbs * one64) = zv x * (one64 : Int) := by rw [signed_mul, ← zv_sgn]
    rw [ha] at k
    have k2 : signed (sgn (val64 V) != sgn (val64 y)) ((zv V).natAbs * (zv y).natAbs) = zv V * zv y := by rw [signed_xor, ← zv_sgn, ← zv_sgn]
    have e := xor_back (signed_inj (n := (zv V).natAbs * (zv y).natAbs) (Nat.mul_ne_zero h0 (fun q => hz (Int.natAbs_eq_zero.mp q))) (k.trans (h.trans k2.symm)))
    rw [e, ← zv_sgn]
theorem Ra.div {i j r : Int} {D E F k : Nat} {x y : UInt64} (hx : Ra i D x) (hy : Ra j E y) (hD : 0 < D) (hE : 0 < E) (hj : j ≠ 0) (hr : r.natAbs < 9007199254740992) (hF : F = 2 ^ k) (hk : k ≤ 1000) (h : i * (E : Int) * (F : Int) = r * (j * (D : Int))) : Ra r F (FP.ddiv x y) := by
  obtain ⟨V, hV⟩ := rep hr hF hk
  have hF0 : (F : Int) ≠ 0 := by rw [hF]; exact Int.ne_of_gt (Int.natCast_pos.mpr (Nat.two_pow_pos k))
  have hy0 : zv y ≠ 0 := fun q => by
    have := hy.2; rw [q, Int.zero_mul] at this
    exact (Int.mul_ne_zero hj (Int.ne_of_gt oz)) this.symm
  have hs : zv x * (one64 : Int) = zv V * zv y := by
    exact mulc (c := (D : Int)) (by omega) (mulc (c := (E : Int)) (by omega) (mulc hF0 (al_div hx.2 hy.2 hV.2 h)))
  have hz : zv (Core.ddiv x y) = zv V := div_zv hx.1 hy.1 hy0 hV.1 hs
  have hyz : ¬ DZero y := fun q => hy0 (by unfold zv; exact DZero.zval q)
  exact ⟨fin_of ((notNaN_iff _).mp (ddiv_out hx.1.notNaN hy.1 hyz)) hV.1 hz, by show zv (Core.ddiv x y) * _ = _; rw [hz, hV.2]⟩
/-- two quotients of one ratio are of one worth -/
theorem div_alike {x y x' y' : UInt64} (hx : DFin x) (hy : DFin y) (hx' : DFin x') (hy' : DFin y') (hz : zv y ≠ 0) (hz' : zv y' ≠ 0) (h : zv x * zv y' = zv x' * zv y) : zv (Core.ddiv x y) = zv (Core.ddiv x' y') := by
  have ha : (zv x).natAbs * (zv y').natAbs = (zv x').natAbs * (zv y).natAbs := by
    have := congrArg Int.natAbs h
    rwa [Int.natAbs_mul, Int.natAbs_mul] at this
  have hsg := div_sgn hx hy hz
  have hsg' := div_sgn hx' hy' hz'
  obtain ⟨s, t, c, d, q, r, ex, ey, hd, hq, hr, mx, my, hv⟩ := div_parts hx hy hz
  obtain ⟨s', t', c', d', q', r', ex', ey', hd', hq', hr', mx', my', hv'⟩ := div_parts hx' hy' hz'
  have hm : (zv (Core.ddiv x y)).natAbs = (zv (Core.ddiv x' y')).natAbs := by
    rw [zv_abs, zv_abs, zv_abs, zv_abs, mx, my, mx', my'] at ha
    rw [zv_abs, zv_abs, hv, hv']
    have e : roundRatio b64 (s != t) c d (q - r) = roundRatio b64 (s != t) c' d' (q' - r') := by
      refine roundRatio_congr hd hd' ?_
      have g1 : ∃ T, (q - b64.qmin).toNat + (r' - b64.qmin).toNat = (q - r - (q' - r')).toNat + T ∧ (q' - b64.qmin).toNat + (r - b64.qmin).toNat = (q' - r' - (q - r)).toNat + T := ⟨(min ((q - b64.qmin) + (r' - b64.qmin)) ((q' - b64.qmin) + (r - b64.qmin))).toNat, by omega, by omega⟩
      obtain ⟨T, g1, g2⟩ := g1
      refine Nat.eq_of_mul_eq_mul_right (Nat.two_pow_pos T) ?_
      calc c * d' * 2 ^ (q - r - (q' - r')).toNat * 2 ^ T = (c * 2 ^ (q - b64.qmin).toNat) * (d' * 2 ^ (r' - b64.qmin).toNat) := by rw [Nat.mul_assoc, ← Nat.pow_add, ← g1, Nat.pow_add]; ac_rfl
        _ = (c' * 2 ^ (q' - b64.qmin).toNat) * (d * 2 ^ (r - b64.qmin).toNat) := ha
        _ = c' * d * 2 ^ (q' - r' - (q - r)).toNat * 2 ^ T := by rw [Nat.mul_assoc (c' * d), ← Nat.pow_add, ← g2, Nat.pow_add]; ac_rfl
    rw [e]
    rcases roundRatio_cases b64 (s != t) c' d' (q' - r') with ⟨a, b, g⟩ | g <;> rcases roundRatio_cases b64 (s' != t') c' d' (q' - r') with ⟨a', b', g'⟩ | g'
    all_goals first
      | (have := negate_roundRatio b64 (s' != t') c' d' (q' - r')
         by_cases w : (s != t) = (s' != t')
         · rw [w]
         · rw [show (s != t) = !(s' != t') by cases s <;> cases t <;> cases s' <;> cases t' <;> simp_all, ← this]
           rw [g']; rfl)
  rw [zv_sgn (Core.ddiv x y), zv_sgn (Core.ddiv x' y'), hm, hsg, hsg']
  by_cases h0 : (zv (Core.ddiv x' y')).natAbs = 0
  · rw [h0, signed_zero, signed_zero]
  · by_cases hx0 : (zv x').natAbs = 0
    · exfalso; apply h0
      have := div_mag_le (V := (0 : UInt64)) hx' hy' hz' (by rw [val64_zero]; exact Datum.noConfusion) (by rw [hx0, Nat.zero_mul]; exact Nat.zero_le _)
      have z0 : zv 0 = 0 := zval64_zero
      rw [z0] at this; simpa using this
    · congr 1
      have hy1 : (zv y).natAbs ≠ 0 := fun q => hz (Int.natAbs_eq_zero.mp q)
      have k : signed (sgn (val64 x) != sgn (val64 y')) ((zv x').natAbs * (zv y).natAbs) = signed (sgn (val64 x') != sgn (val64 y)) ((zv x').natAbs * (zv y).natAbs) := by
        rw [← ha, signed_xor, ha, signed_xor, ← zv_sgn, ← zv_sgn, ← zv_sgn, ← zv_sgn]; exact h
      have k2 := signed_inj (Nat.mul_ne_zero hx0 hy1) k
      revert k2
      generalize sgn (val64 x) = a; generalize sgn (val64 y) = b; generalize sgn (val64 x') = a'; generalize sgn (val64 y') = b'
      cases a <;> cases b <;> cases a' <;> cases b' <;> simp
/-- comparisons -/
theorem cv_lt {x y : UInt64} (nx : val64 x ≠ .nan) (ny : val64 y ≠ .nan) (h : zv x < zv y) (o : Jvm.ClassFile.CmpOp) : Jvm.Op.cmpValue (FP.dcmp x y) o = -1 := by
  rw [show FP.dcmp x y = some .lt from dcmp_lt.mpr ⟨nx, ny, h⟩]; cases o <;> rfl
theorem cv_eq {x y : UInt64} (nx : val64 x ≠ .nan) (ny : val64 y ≠ .nan) (h : zv x = zv y) (o : Jvm.ClassFile.CmpOp) : Jvm.Op.cmpValue (FP.dcmp x y) o = 0 := by
  rw [show FP.dcmp x y = some .eq from dcmp_eq.mpr ⟨nx, ny, h⟩]; cases o <;> rfl
theorem cv_gt {x y : UInt64} (nx : val64 x ≠ .nan) (ny : val64 y ≠ .nan) (h : zv y < zv x) (o : Jvm.ClassFile.CmpOp) : Jvm.Op.cmpValue (FP.dcmp x y) o = 1 := by
  rw [show FP.dcmp x y = some .gt from dcmp_gt.mpr ⟨nx, ny, h⟩]; cases o <;> rfl
theorem cv_le {x y : UInt64} (nx : val64 x ≠ .nan) (ny : val64 y ≠ .nan) (h : zv x ≤ zv y) (o : Jvm.ClassFile.CmpOp) : ¬ (0 : Int32) < Jvm.Op.cmpValue (FP.dcmp x y) o := by
  rcases Int.lt_or_eq_of_le h with q | q
  · rw [cv_lt nx ny q]; decide
  · rw [cv_eq nx ny q]; decide
theorem cv_ge {x y : UInt64} (nx : val64 x ≠ .nan) (ny : val64 y ≠ .nan) (h : zv y ≤ zv x) (o : Jvm.ClassFile.CmpOp) : ¬ Jvm.Op.cmpValue (FP.dcmp x y) o < (0 : Int32) := by
  rcases Int.lt_or_eq_of_le h with q | q
  · rw [cv_gt nx ny q]; decide
  · rw [cv_eq nx ny q.symm]; decide
theorem cv_lt' {x y : UInt64} (nx : val64 x ≠ .nan) (ny : val64 y ≠ .nan) (h : zv x < zv y) (o : Jvm.ClassFile.CmpOp) : Jvm.Op.cmpValue (FP.dcmp x y) o < (0 : Int32) := by rw [cv_lt nx ny h]; decide
theorem cv_gt' {x y : UInt64} (nx : val64 x ≠ .nan) (ny : val64 y ≠ .nan) (h : zv y < zv x) (o : Jvm.ClassFile.CmpOp) : (0 : Int32) < Jvm.Op.cmpValue (FP.dcmp x y) o := by rw [cv_gt nx ny h]; decide
theorem zv_lt {i j : Int} {D : Nat} {x y : UInt64} (hx : Ra i D x) (hy : Ra j D y) (hD : 0 < D) (h : i < j) : zv x < zv y := by
  refine Int.lt_of_mul_lt_mul_right (a := (D : Int)) ?_ (by omega)
  rw [hx.2, hy.2]; exact Int.mul_lt_mul_of_pos_right h oz
theorem zv_eq {i j : Int} {D : Nat} {x y : UInt64} (hx : Ra i D x) (hy : Ra j D y) (hD : 0 < D) (h : i = j) : zv x = zv y :=
  mulc (c := (D : Int)) (by omega) (by rw [hx.2, hy.2, h])
theorem Ra.lt {i j : Int} {D : Nat} {x y : UInt64} (hx : Ra i D x) (hy : Ra j D y) (hD : 0 < D) (h : i < j) (o : Jvm.ClassFile.CmpOp) : Jvm.Op.cmpValue (FP.dcmp x y) o = -1 := cv_lt hx.ne_nan hy.ne_nan (zv_lt hx hy hD h) o
theorem Ra.gt {i j : Int} {D : Nat} {x y : UInt64} (hx : Ra i D x) (hy : Ra j D y) (hD : 0 < D) (h : j < i) (o : Jvm.ClassFile.CmpOp) : Jvm.Op.cmpValue (FP.dcmp x y) o = 1 := cv_gt hx.ne_nan hy.ne_nan (zv_lt hy hx hD h) o
theorem Ra.eq {i j : Int} {D : Nat} {x y : UInt64} (hx : Ra i D x) (hy : Ra j D y) (hD : 0 < D) (h : i = j) (o : Jvm.ClassFile.CmpOp) : Jvm.Op.cmpValue (FP.dcmp x y) o = 0 := cv_eq hx.ne_nan hy.ne_nan (zv_eq hx hy hD h) o
theorem zv_le {i j : Int} {D : Nat} {x y : UInt64} (hx : Ra i D x) (hy : Ra j D y) (hD : 0 < D) (h : i ≤ j) : zv x ≤ zv y := by
  rcases Int.lt_or_eq_of_le h with q | q
  · exact Int.le_of_lt (zv_lt hx hy hD q)
  · exact Int.le_of_eq (zv_eq hx hy hD q)
theorem Ra.le {i j : Int} {D : Nat} {x y : UInt64} (hx : Ra i D x) (hy : Ra j D y) (hD : 0 < D) (h : i ≤ j) (o : Jvm.ClassFile.CmpOp) : ¬ (0 : Int32) < Jvm.Op.cmpValue (FP.dcmp x y) o := cv_le hx.ne_nan hy.ne_nan (zv_le hx hy hD h) o
theorem Ra.ge {i j : Int} {D : Nat} {x y : UInt64} (hx : Ra i D x) (hy : Ra j D y) (hD : 0 < D) (h : j ≤ i) (o : Jvm.ClassFile.CmpOp) : ¬ Jvm.Op.cmpValue (FP.dcmp x y) o < (0 : Int32) := cv_ge hx.ne_nan hy.ne_nan (zv_le hy hx hD h) o
theorem Ra.lt' {i j : Int} {D : Nat} {x y : UInt64} (hx : Ra i D x) (hy : Ra j D y) (hD : 0 < D) (h : i < j) (o : Jvm.ClassFile.CmpOp) : Jvm.Op.cmpValue (FP.dcmp x y) o < (0 : Int32) := cv_lt' hx.ne_nan hy.ne_nan (zv_lt hx hy hD h) o
theorem Ra.gt' {i j : Int} {D : Nat} {x y : UInt64} (hx : Ra i D x) (hy : Ra j D y) (hD : 0 < D) (h : j < i) (o : Jvm.ClassFile.CmpOp) : (0 : Int32) < Jvm.Op.cmpValue (FP.dcmp x y) o := cv_gt' hx.ne_nan hy.ne_nan (zv_lt hy hx hD h) o
theorem Ra.of_int {i : Int} {x : UInt64} (h : DInt i x) (hf : DFin x) : Ra i 1 x := ⟨hf, by show zval b64 (val64 x) * _ = _; rw [DInt_zval h]; show _ * (1 : Int) = _; rw [Int.mul_one]⟩
theorem Ra.i2d (a : Int32) : Ra a.toInt 1 (FP.i2d a) := Ra.of_int (i2d_int a) (Core.i2d_fin a)
theorem Ra.l2d {a : Int64} (h : a.toInt.natAbs ≤ 9007199254740992) : Ra a.toInt 1 (FP.l2d a) := Ra.of_int (l2d_int h) (Core.l2d_fin a)
/-- a written constant -/
theorem Ra.lit {x : UInt64} {s : Bool} {c D n : Nat} {q i : Int} {k : Nat} (h : val64 x = .fin s c q) (hD : D = 2 ^ k) (hq : q = -((k + n : Nat) : Int)) (hk : k + n ≤ 1074) (e : signed s c = i * ((2 ^ n : Nat) : Int)) : Ra i D x := by
  refine ⟨⟨s, c, q, h⟩, ?_⟩
  unfold zv
  rw [h]
  show signed s (inUnits c q b64.qmin) * _ = _
  unfold inUnits
  have e2 : n + (q - b64.qmin).toNat + k = 1074 := by rw [qmin_b64]; omega
  rw [signed_mul, e, hD, Int.mul_assoc, Int.mul_assoc, ← Int.natCast_mul, ← Int.natCast_mul, ← Nat.pow_add, ← Nat.pow_add, ← Nat.add_assoc, e2]
  rfl
theorem zv_neg (x : UInt64) : zv (FP.dneg x) = -zv x := by unfold zv; rw [Jvm.FP.val64_dneg, zval_negate]
theorem Ra.neg {i : Int} {D : Nat} {x : UInt64} (h : Ra i D x) : Ra (-i) D (FP.dneg x) := by
  obtain ⟨⟨s, c, q, ex⟩, e⟩ := h
  exact ⟨⟨!s, c, q, by rw [Jvm.FP.val64_dneg, ex]; rfl⟩, by rw [zv_neg, Int.neg_mul, e, Int.neg_mul]⟩
/-- exact products of longs -/
theorem lmul_of {x y : Int64} {a b : Int} (hx : x.toInt = a) (hy : y.toInt = b) (h1 : -9223372036854775808 ≤ a * b) (h2 : a * b < 9223372036854775808) : (x * y).toInt = a * b := by
  rw [int64_mul (by rw [hx, hy]; exact h1) (by rw [hx, hy]; exact h2), hx, hy]
theorem ladd_of {x y : Int64} {a b : Int} (hx : x.toInt = a) (hy : y.toInt = b) (h1 : -9223372036854775808 ≤ a + b) (h2 : a + b < 9223372036854775808) : (x + y).toInt = a + b := by
  rw [int64_add (by rw [hx, hy]; exact h1) (by rw [hx, hy]; exact h2), hx, hy]
theorem lsub_of {x y : Int64} {a b : Int} (hx : x.toInt = a) (hy : y.toInt = b) (h1 : -9223372036854775808 ≤ a - b) (h2 : a - b < 9223372036854775808) : (x - y).toInt = a - b := by
  rw [int64_sub (by rw [hx, hy]; exact h1) (by rw [hx, hy]; exact h2), hx, hy]
theorem lneg_of {x : Int64} {a : Int} (hx : x.toInt = a) (h1 : -9223372036854775808 < a) : (-x).toInt = -a := by
  rw [int64_neg (by rw [hx]; exact h1), hx]
theorem i2l_of {x : Int32} {a : Int} (hx : x.toInt = a) : x.toInt64.toInt = a := by rw [Int32.toInt_toInt64, hx]
theorem fin_of_le {x V : UInt64} (hn : val64 x ≠ .nan) (hV : DFin V) (h : (zv x).natAbs ≤ (zv V).natAbs) : DFin x := by
  cases hx : val64 x with
  | nan => exact absurd hx hn
  | fin s c q => exact ⟨s, c, q, hx⟩
  | inf s =>
    exfalso
    have h1 := hV.zval_lt
    rw [zv_abs, zv_abs, hx] at h
    exact absurd (Nat.lt_of_le_of_lt h h1) (Nat.lt_irrefl _)
/-- a bound on the worth bounds the bits -/
theorem mag_of {x : UInt64} {n : Nat} (hx : DFin x) (h : (zv x).natAbs ≤ 2 ^ n * one64) : Mag64 (n + 1024) x := by
  have z := zmag_bits hx.ne_nan
  rw [zv_abs, z] at h
  have hs : unitsOf b64 ((n + 1024) * b64.tails) = b64.tails * 2 ^ (n + 1024 - 1) := unitsOf_start (by omega)
  have ho : 2 ^ n * one64 < b64.tails * 2 ^ (n + 1024 - 1) := by
    rw [tails_b64, ← pow_qmin64, ← Nat.pow_add, ← Nat.pow_add, qmin_b64]
    exact Nat.pow_lt_pow_right (by decide) (by omega)
  have hl : unitsOf b64 (x.toNat % 2 ^ 63) < unitsOf b64 ((n + 1024) * b64.tails) := by rw [hs]; exact Nat.lt_of_le_of_lt h ho
  have hb := unitsOf_lt_iff.mp hl
  rw [tails_b64] at hb
  unfold Mag64
  exact hb
theorem Ra.mag {i : Int} {D n : Nat} {x : UInt64} (h : Ra i D x) (hD : 0 < D) (hi : i.natAbs ≤ 2 ^ n * D) : Mag64 (n + 1024) x := by
  refine mag_of h.1 (Nat.le_of_mul_le_mul_right (c := D) ?_ hD)
  have e := congrArg Int.natAbs h.2
  rw [Int.natAbs_mul, Int.natAbs_mul, Int.natAbs_natCast, Int.natAbs_natCast] at e
  rw [e]
  exact al_mag hi
theorem ra_zero : Ra 0 1 (0 : UInt64) := ⟨⟨_, _, _, val64_zero⟩, by rw [show zv 0 = 0 from zval64_zero, Int.zero_mul, Int.zero_mul]⟩
theorem ra_one : Ra 1 1 (4607182418800017408 : UInt64) := Ra.lit (s := false) (c := 4503599627370496) (q := -52) (k := 0) (n := 52) (by decide +kernel) rfl (by decide) (by decide) (by decide)
theorem ra_two : Ra 2 1 (4611686018427387904 : UInt64) := Ra.lit (s := false) (c := 4503599627370496) (q := -51) (k := 0) (n := 51) (by decide +kernel) rfl (by decide) (by decide) (by decide)
end Jvm.OwnFP
namespace Jvm.Pilot.@@N@@
open Jvm Jvm.ClassFile Sem Op Lib Jvm.Free Jvm.Stand Jvm.LawKit Jvm.RoadKit Bundle Jvm.Pilot.@@N@@.Jvm.D
theorem d1_0 : decode prog_60_method_1_code 0 = .ok (.aload_n 0, 1) := by decide +kernel
theorem d1_1 : decode prog_60_method_1_code 1 = .ok (.invokespecial 1, 3) := by decide +kernel
theorem d1_4 : decode prog_60_method_1_code 4 = .ok (.aload_n 0, 1) := by decide +kernel
theorem d1_5 : decode prog_60_method_1_code 5 = .ok (.dload_n 1, 1) := by decide +kernel
theorem d1_6 : decode prog_60_method_1_code 6 = .ok (.putfield 7, 3) := by decide +kernel
theorem so_Jet_high_low {Z : State} {a0 : Array Value} (hw : ∀ d ∈ tables_1, d.before a0 Z = true) : Jvm.RoadKit.slotOf Z "com/example/odds_on_counters/oddsoncounters/numeric/Jet" "high" "D" ≠ Jvm.RoadKit.slotOf Z "com/example/odds_on_counters/oddsoncounters/numeric/Jet" "low" "D" := slot_ne (Or.inr (hw _ (List.mem_of_getElem? (i := 14) rfl))) (Or.inr (hw _ (List.mem_of_getElem? (i := 12) rfl))) (by decide) (t := .double) (t' := .double) (by decide) (by decide)
theorem so_Jet_slopeLow_low {Z : State} {a0 : Array Value} (hw : ∀ d ∈ tables_1, d.before a0 Z = true) : Jvm.RoadKit.slotOf Z "com/example/odds_on_counters/oddsoncounters/numeric/Jet" "slopeLow" "[D" ≠ Jvm.RoadKit.slotOf Z "com/example/odds_on_counters/oddsoncounters/numeric/Jet" "low" "D" := slot_ne (Or.inr (hw _ (List.mem_of_getElem? (i := 16) rfl))) (Or.inr (hw _ (List.mem_of_getElem? (i := 12) rfl))) (by decide) (t := (.array .double)) (t' := .double) (by decide) (by decide)
theorem so_Jet_slopeHigh_low {Z : State} {a0 : Array Value} (hw : ∀ d ∈ tables_1, d.before a0 Z = true) : Jvm.RoadKit.slotOf Z "com/example/odds_on_counters/oddsoncounters/numeric/Jet" "slopeHigh" "[D" ≠ Jvm.RoadKit.slotOf Z "com/example/odds_on_counters/oddsoncounters/numeric/Jet" "low" "D" := slot_ne (Or.inr (hw _ (List.mem_of_getElem? (i := 18) rfl))) (Or.inr (hw _ (List.mem_of_getElem? (i := 12) rfl))) (by decide) (t := (.array .double)) (t' := .double) (by decide) (by decide)
theorem d1_9 : decode prog_60_method_1_code 9 = .ok (.aload_n 0, 1) := by decide +kernel
theorem d1_10 : decode prog_60_method_1_code 10 = .ok (.dload_n 3, 1) := by decide +kernel
theorem d1_11 : decode prog_60_method_1_code 11 = .ok (.putfield 13, 3) := by decide +kernel
theorem so_Jet_low_high {Z : State} {a0 : Array Value} (hw : ∀ d ∈ tables_1, d.before a0 Z = true) : Jvm.RoadKit.slotOf Z "com/example/odds_on_counters/oddsoncounters/numeric/Jet" "low" "D" ≠ Jvm.RoadKit.slotOf Z "com/example/odds_on_counters/oddsoncounters/numeric/Jet" "high" "D" := slot_ne (Or.inr (hw _ (List.mem_of_getElem? (i := 12) rfl))) (Or.inr (hw _ (List.mem_of_getElem? (i := 14) rfl))) (by decide) (t := .double) (t' := .double) (by decide) (by decide)
theorem so_Jet_slopeLow_high {Z : State} {a0 : Array Value} (hw : ∀ d ∈ tables_1, d.before a0 Z = true) : Jvm.RoadKit.slotOf Z "com/example/odds_on_counters/oddsoncounters/numeric/Jet" "slopeLow" "[D" ≠ Jvm.RoadKit.slotOf Z "com/example/odds_on_counters/oddsoncounters/numeric/Jet" "high" "D" := slot_ne (Or.inr (hw _ (List.mem_of_getElem? (i := 16) rfl))) (Or.inr (hw _ (List.mem_of_getElem? (i := 14) rfl))) (by decide) (t := (.array .double)) (t' := .double) (by decide) (by decide)
theorem so_Jet_slopeHigh_high {Z : State} {a0 : Array Value} (hw : ∀ d ∈ tables_1, d.before a0 Z = true) : Jvm.RoadKit.slotOf Z "com/example/odds_on_counters/oddsoncounters/numeric/Jet" "slopeHigh" "[D" ≠ Jvm.RoadKit.slotOf Z "com/example/odds_on_counters/oddsoncounters/numeric/Jet" "high" "D" := slot_ne (Or.inr (hw _ (List.mem_of_getElem? (i := 18) rfl))) (Or.inr (hw _ (List.mem_of_getElem? (i := 14) rfl))) (by decide) (t := (.array .double)) (t' := .double) (by decide) (by decide)
theorem d1_14 : decode prog_60_method_1_code 14 = .ok (.aload_n 0, 1) := by decide +kernel
theorem d1_15 : decode prog_60_method_1_code 15 = .ok (.aload 5, 2) := by decide +kernel
theorem d1_17 : decode prog_60_method_1_code 17 = .ok (.putfield 16, 3) := by decide +kernel
theorem so_Jet_low_slopeLow {Z : State} {a0 : Array Value} (hw : ∀ d ∈ tables_1, d.before a0 Z = true) : Jvm.RoadKit.slotOf Z "com/example/odds_on_counters/oddsoncounters/numeric/Jet" "low" "D" ≠ Jvm.RoadKit.slotOf Z "com/example/odds_on_counters/oddsoncounters/numeric/Jet" "slopeLow" "[D" := slot_ne (Or.inr (hw _ (List.mem_of_getElem? (i := 12) rfl))) (Or.inr (hw _ (List.mem_of_getElem? (i := 16) rfl))) (by decide) (t := .double) (t' := (.array .double)) (by decide) (by decide)
theorem so_Jet_high_slopeLow {Z : State} {a0 : Array Value} (hw : ∀ d ∈ tables_1, d.before a0 Z = true) : Jvm.RoadKit.slotOf Z "com/example/odds_on_counters/oddsoncounters/numeric/Jet" "high" "D" ≠ Jvm.RoadKit.slotOf Z "com/example/odds_on_counters/oddsoncounters/numeric/Jet" "slopeLow" "[D" := slot_ne (Or.inr (hw _ (List.mem_of_getElem? (i := 14) rfl))) (Or.inr (hw _ (List.mem_of_getElem? (i := 16) rfl))) (by decide) (t := .double) (t' := (.array .double)) (by decide) (by decide)
theorem so_Jet_slopeHigh_slopeLow {Z : State} {a0 : Array Value} (hw : ∀ d ∈ tables_1, d.before a0 Z = true) : Jvm.RoadKit.slotOf Z "com/example/odds_on_counters/oddsoncounters/numeric/Jet" "slopeHigh" "[D" ≠ Jvm.RoadKit.slotOf Z "com/example/odds_on_counters/oddsoncounters/numeric/Jet" "slopeLow" "[D" := slot_ne (Or.inr (hw _ (List.mem_of_getElem? (i := 18) rfl))) (Or.inr (hw _ (List.mem_of_getElem? (i := 16) rfl))) (by decide) (t := (.array .double)) (t' := (.array .double)) (by decide) (by decide)
theorem d1_20 : decode prog_60_method_1_code 20 = .ok (.aload_n 0, 1) := by decide +kernel
theorem d1_21 : decode prog_60_method_1_code 21 = .ok (.aload 6, 2) := by decide +kernel
theorem d1_23 : decode prog_60_method_1_code 23 = .ok (.putfield 20, 3) := by decide +kernel
theorem so_Jet_low_slopeHigh {Z : State} {a0 : Array Value} (hw : ∀ d ∈ tables_1, d.before a0 Z = true) : Jvm.RoadKit.slotOf Z "com/example/odds_on_counters/oddsoncounters/numeric/Jet" "low" "D" ≠ Jvm.RoadKit.slotOf Z "com/example/odds_on_counters/oddsoncounters/numeric/Jet" "slopeHigh" "[D" := slot_ne (Or.inr (hw _ (List.mem_of_getElem? (i := 12) rfl))) (Or.inr (hw _ (List.mem_of_getElem? (i := 18) rfl))) (by decide) (t := .double) (t' := (.array .double)) (by decide) (by decide)
theorem so_Jet_high_slopeHigh {Z : State} {a0 : Array Value} (hw : ∀ d ∈ tables_1, d.before a0 Z = true) : Jvm.RoadKit.slotOf Z "com/example/odds_on_counters/oddsoncounters/numeric/Jet" "high" "D" ≠ Jvm.RoadKit.slotOf Z "com/example/odds_on_counters/oddsoncounters/numeric/Jet" "slopeHigh" "[D" := slot_ne (Or.inr (hw _ (List.mem_of_getElem? (i := 14) rfl))) (Or.inr (hw _ (List.mem_of_getElem? (i := 18) rfl))) (by decide) (t := .double) (t' := (.array .double)) (by decide) (by decide)
theorem so_Jet_slopeLow_slopeHigh {Z : State} {a0 : Array Value} (hw : ∀ d ∈ tables_1, d.before a0 Z = true) : Jvm.RoadKit.slotOf Z "com/example/odds_on_counters/oddsoncounters/numeric/Jet" "slopeLow" "[D" ≠ Jvm.RoadKit.slotOf Z "com/example/odds_on_counters/oddsoncounters/numeric/Jet" "slopeHigh" "[D" := slot_ne (Or.inr (hw _ (List.mem_of_getElem? (i := 16) rfl))) (Or.inr (hw _ (List.mem_of_getElem? (i := 18) rfl))) (by decide) (t := (.array .double)) (t' := (.array .double)) (by decide) (by decide)
theorem d1_26 : decode prog_60_method_1_code 26 = .ok (.return_, 1) := by decide +kernel
theorem pn_com_example_odds_on_counters_oddsoncounters_numeric_Jet : plainName "com/example/odds_on_counters/oddsoncounters/numeric/Jet" = true := by first | (simp [plainName, overriddenIn]; done) | decide +kernel
theorem ef_1_RDDRR (m : MethodId) (x0 : Addr) (x1 : UInt64) (x2 : UInt64) (x3 : Addr) (x4 : Addr) : entryFrame m #[(.ref x0), (.double x1), (.double x2), (.ref x3), (.ref x4)] 7 = mkF m 0 #[.val (.ref x0), .val (.double x1), .second, .val (.double x2), .second, .val (.ref x3), .val (.ref x4)] [] := by first | (simp [entryFrame, mkF, argsToLocals, Value.category]; done) | rfl
def Q_rm1r (Z : State) (t0 : Addr) (d0 : UInt64) (d1 : UInt64) (s0 : Addr) (s1 : Addr) (h0 : Heap) (n0 : Nat) (v : Option Value) (h : Heap) (L : List Loc) : Prop := v = none ∧ Fr n0 L ∧ Keep h0 h [t0] ∧ Exa Z h t0 "com/example/odds_on_counters/oddsoncounters/numeric/Jet" ∧ Fld Z h t0 "com/example/odds_on_counters/oddsoncounters/numeric/Jet" "slopeLow" "[D" (.ref s0) ∧ Fld Z h t0 "com/example/odds_on_counters/oddsoncounters/numeric/Jet" "slopeHigh" "[D" (.ref s1)
set_option maxRecDepth 65536 in
set_option maxHeartbeats 40000000 in
theorem rm1r (l : Launch) (Z : State) (a0 : Array Value) (hw : ∀ d ∈ tables_1, d.before a0 Z = true) (ws : List Jvm.Cond) (t0 : Addr) (d0 : UInt64) (d1 : UInt64) (s0 : Addr) (s1 : Addr) (h0 : Heap) (n0 : Nat) (Z0 : n0 ≤ h0.size) (E_t0 : Exa Z h0 t0 "com/example/odds_on_counters/oddsoncounters/numeric/Jet") (F_low_t0 : Fld Z h0 t0 "com/example/odds_on_counters/oddsoncounters/numeric/Jet" "low" "D" (.double (0 : UInt64))) (F_high_t0 : Fld Z h0 t0 "com/example/odds_on_counters/oddsoncounters/numeric/Jet" "high" "D" (.double (0 : UInt64))) (F_slopeLow_t0 : Fld Z h0 t0 "com/example/odds_on_counters/oddsoncounters/numeric/Jet" "slopeLow" "[D" .null) (F_slopeHigh_t0 : Fld Z h0 t0 "com/example/odds_on_counters/oddsoncounters/numeric/Jet" "slopeHigh" "[D" .null) (g_t0 : n0 ≤ t0) :
    MetFree l (⟨"com/example/odds_on_counters/oddsoncounters/numeric/Jet", "<init>", "(DD[D[D)V"⟩ : MethodName) (head1 (Jvm.Cond.code (⟨"com/example/odds_on_counters/oddsoncounters/numeric/Jet", "<init>", "(DD[D[D)V"⟩ : MethodName) prog_60_method_1_code 7 none :: ws) ({ frames := 1, cells := 0, slots := 0, locals := 12 } : Room)) (fun a U => a = #[(.ref t0), (.double d0), (.double d1), (.ref s0), (.ref s1)] ∧ Z.Warmed39 U.vm ∧ U.heap = h0) (fun _ _ _ _ _ => True) (fun _ U o U' => ∃ v L, o = .returned v ∧ Q_rm1r Z t0 d0 d1 s0 s1 h0 n0 v U'.heap L ∧ FrameEnd U o U' L ({ frames := 1, cells := 0, slots := 0, locals := 12 } : Room).cells ({ frames := 1, cells := 0, slots := 0, locals := 12 } : Room).slots) := by
  refine MetFree.of_bodySF (plainFor_of_name pn_com_example_odds_on_counters_oddsoncounters_numeric_Jet) hisR ?_
  intro p e s m args below meth c s₁ Bd hml0 hP hK
  obtain ⟨rfl, hZ, hh⟩ := hP
  have hx := Bd.exec
  have hby := Bd.bytes
  have hml : c.maxLocals = 7 := hml0
  have hown : s.vm.findClass "com/example/odds_on_counters/oddsoncounters/numeric/Jet" = some m.cls := findClass_of_methodNamed Bd.named
  have hnm := (name_of_methodNamed Bd.named Bd.method).1
  have X0 : Stand p l e ({ frames := 1, cells := 0, slots := 0, locals := 12 } : Room) s m #[(.ref t0), (.double d0), (.double d1), (.ref s0), (.ref s1)] below meth c s₁ [] 0 0 := Stand.of_body Bd
  have e0 : s₁.heap = h0 := by rw [← hh, Bd.state]; rfl
  have N0 := Fr.nil n0
  have pre0 : ∀ t, Steps p.tables e below (s₁.setTop (mkF m 0 #[.val (.ref t0), .val (.double d0), .second, .val (.double d1), .second, .val (.ref s0), .val (.ref s1)] [])) t → Steps p.tables e below (s₁.setTop (entryFrame m #[(.ref t0), (.double d0), (.double d1), (.ref s0), (.ref s1)] 7)) t := fun t k => castTop (ef_1_RDDRR m t0 d0 d1 s0 s1) k
  obtain ⟨T1, X1, e1, st1⟩ := initO X0 hx hZ hown (hw _ (List.mem_of_getElem? (i := 8) rfl)) (hw _ (List.mem_of_getElem? (i := 9) rfl)) (hw _ (List.mem_of_getElem? (i := 10) rfl)) e0 (g := (mkF m 1 #[.val (.ref t0), .val (.double d0), .second, .val (.double d1), .second, .val (.ref s0), .val (.ref s1)] [(.ref t0)])) rfl (by rw [hml]; rfl) rfl (hb hby d1_1) (by decide) (W := 0) (by show 2 * 0 + _ ≤ _; exact Nat.le_of_eq rfl) (by decide)
  obtain ⟨T2, h2, X2, e2, W2, st2⟩ := putF X1 hx hZ hown (host := "") (Or.inl (hw _ (List.mem_of_getElem? (i := 11) rfl))) Via.refl e1 F_low_t0 E_t0 (Or.inr ⟨(hw _ (List.mem_of_getElem? (i := 12) rfl)), rfl, hnm⟩) (hw _ (List.mem_of_getElem? (i := 3) rfl)) (ty := .double) (by decide) rfl rfl (g := (mkF m 6 #[.val (.ref t0), .val (.double d0), .second, .val (.double d1), .second, .val (.ref s0), .val (.ref s1)] [(.double d0), (.ref t0)])) rfl rfl (hb hby d1_6)
  have f3 := E_t0.wr W2
  have f4 := F_high_t0.other W2 (Or.inr (so_Jet_high_low hw))
  have f5 := F_slopeLow_t0.other W2 (Or.inr (so_Jet_slopeLow_low hw))
  have f6 := F_slopeHigh_t0.other W2 (Or.inr (so_Jet_slopeHigh_low hw))
  have K2 : Keep h0 h2 [t0] := (Keep.refl h0 [t0]).wr W2 (Or.inl (List.mem_of_getElem? (i := 0) rfl))
  have Zs2 := Nat.le_trans Z0 (Keep.of_wr W2).1
  have N2 := Fr.snoc X2 N0 g_t0
  have f7 : Fld Z h2 t0 "com/example/odds_on_counters/oddsoncounters/numeric/Jet" "low" "D" (.double d0) := F_low_t0.same W2
  obtain ⟨T8, h8, X8, e8, W8, st8⟩ := putF X2 hx hZ hown (host := "") (Or.inl (hw _ (List.mem_of_getElem? (i := 13) rfl))) Via.refl e2 f4 f3 (Or.inr ⟨(hw _ (List.mem_of_getElem? (i := 14) rfl)), rfl, hnm⟩) (hw _ (List.mem_of_getElem? (i := 3) rfl)) (ty := .double) (by decide) rfl rfl (g := (mkF m 11 #[.val (.ref t0), .val (.double d0), .second, .val (.double d1), .second, .val (.ref s0), .val (.ref s1)] [(.double d1), (.ref t0)])) rfl rfl (hb hby d1_11)
  have f9 := f3.wr W8
  have f10 := f7.other W8 (Or.inr (so_Jet_low_high hw))
  have f11 := f5.other W8 (Or.inr (so_Jet_slopeLow_high hw))
  have f12 := f6.other W8 (Or.inr (so_Jet_slopeHigh_high hw))
  have K8 : Keep h0 h8 [t0] := K2.wr W8 (Or.inl (List.mem_of_getElem? (i := 0) rfl))
  have Zs8 := Nat.le_trans Zs2 (Keep.of_wr W8).1
  have N8 := Fr.snoc X8 N2 g_t0
  have f13 : Fld Z h8 t0 "com/example/odds_on_counters/oddsoncounters/numeric/Jet" "high" "D" (.double d1) := f4.same W8
  obtain ⟨T14, h14, X14, e14, W14, st14⟩ := putF X8 hx hZ hown (host := "") (Or.inl (hw _ (List.mem_of_getElem? (i := 15) rfl))) Via.refl e8 f11 f9 (Or.inr ⟨(hw _ (List.mem_of_getElem? (i := 16) rfl)), rfl, hnm⟩) (hw _ (List.mem_of_getElem? (i := 3) rfl)) (ty := (.array .double)) (by decide) rfl rfl (g := (mkF m 17 #[.val (.ref t0), .val (.double d0), .second, .val (.double d1), .second, .val (.ref s0), .val (.ref s1)] [(.ref s0), (.ref t0)])) rfl rfl (hb hby d1_17)
  have f15 := f9.wr W14
  have f16 := f10.other W14 (Or.inr (so_Jet_low_slopeLow hw))
  have f17 := f13.other W14 (Or.inr (so_Jet_high_slopeLow hw))
  have f18 := f12.other W14 (Or.inr (so_Jet_slopeHigh_slopeLow hw))
  have K14 : Keep h0 h14 [t0] := K8.wr W14 (Or.inl (List.mem_of_getElem? (i := 0) rfl))
  have Zs14 := Nat.le_trans Zs8 (Keep.of_wr W14).1
  have N14 := Fr.snoc X14 N8 g_t0
  have f19 : Fld Z h14 t0 "com/example/odds_on_counters/oddsoncounters/numeric/Jet" "slopeLow" "[D" (.ref s0) := f11.same W14
  obtain ⟨T20, h20, X20, e20, W20, st20⟩ := putF X14 hx hZ hown (host := "") (Or.inl (hw _ (List.mem_of_getElem? (i := 17) rfl))) Via.refl e14 f18 f15 (Or.inr ⟨(hw _ (List.mem_of_getElem? (i := 18) rfl)), rfl, hnm⟩) (hw _ (List.mem_of_getElem? (i := 3) rfl)) (ty := (.array .double)) (by decide) rfl rfl (g := (mkF m 23 #[.val (.ref t0), .val (.double d0), .second, .val (.double d1), .second, .val (.ref s0), .val (.ref s1)] [(.ref s1), (.ref t0)])) rfl rfl (hb hby d1_23)
  have f21 := f15.wr W20
  have f22 := f16.other W20 (Or.inr (so_Jet_low_slopeHigh hw))
  have f23 := f17.other W20 (Or.inr (so_Jet_high_slopeHigh hw))
  have f24 := f19.other W20 (Or.inr (so_Jet_slopeLow_slopeHigh hw))
  have K20 : Keep h0 h20 [t0] := K14.wr W20 (Or.inl (List.mem_of_getElem? (i := 0) rfl))
  have Zs20 := Nat.le_trans Zs14 (Keep.of_wr W20).1
  have N20 := Fr.snoc X20 N14 g_t0
  have f25 : Fld Z h20 t0 "com/example/odds_on_counters/oddsoncounters/numeric/Jet" "slopeHigh" "[D" (.ref s1) := f18.same W20
  obtain ⟨fs, hr, hrun, hended, hW, hsame⟩ := X20.leave (v := none) (fun _ => rfl)
  refine ⟨_, _, pre0 _ ?_, hrun, hended, _, _, rfl, ?_, ⟨_, rfl⟩, hW, hsame.mono (by decide) (by decide)⟩
  · show Steps p.tables e below (s₁.setTop (mkF m 0 #[.val (.ref t0), .val (.double d0), .second, .val (.double d1), .second, .val (.ref s0), .val (.ref s1)] [])) _
    refine XS.aloadN X0.here hx rfl (hb hby d1_0) rfl rfl ?_
    show Steps p.tables e below (s₁.setTop (mkF m 1 #[.val (.ref t0), .val (.double d0), .second, .val (.double d1), .second, .val (.ref s0), .val (.ref s1)] [(.ref t0)])) _
    refine st1 _ ?_
    show Steps p.tables e below (T1.setTop (mkF m 4 #[.val (.ref t0), .val (.double d0), .second, .val (.double d1), .second, .val (.ref s0), .val (.ref s1)] [])) _
    refine XS.aloadN X1.here hx rfl (hb hby d1_4) rfl rfl ?_
    show Steps p.tables e below (T1.setTop (mkF m 5 #[.val (.ref t0), .val (.double d0), .second, .val (.double d1), .second, .val (.ref s0), .val (.ref s1)] [(.ref t0)])) _
    refine XS.dloadN X1.here hx rfl (hb hby d1_5) rfl ?_
    show Steps p.tables e below (T1.setTop (mkF m 6 #[.val (.ref t0), .val (.double d0), .second, .val (.double d1), .second, .val (.ref s0), .val (.ref s1)] [(.double d0), (.ref t0)])) _
    refine st2 _ ?_
    show Steps p.tables e below (T2.setTop (mkF m 9 #[.val (.ref t0), .val (.double d0), .second, .val (.double d1), .second, .val (.ref s0), .val (.ref s1)] [])) _
    refine XS.aloadN X2.here hx rfl (hb hby d1_9) rfl rfl ?_
    show Steps p.tables e below (T2.setTop (mkF m 10 #[.val (.ref t0), .val (.double d0), .second, .val (.double d1), .second, .val (.ref s0), .val (.ref s1)] [(.ref t0)])) _
    refine XS.dloadN X2.here hx rfl (hb hby d1_10) rfl ?_
    show Steps p.tables e below (T2.setTop (mkF m 11 #[.val (.ref t0), .val (.double d0), .second, .val (.double d1), .second, .val (.ref s0), .val (.ref s1)] [(.double d1), (.ref t0)])) _
    refine st8 _ ?_
    show Steps p.tables e below (T8.setTop (mkF m 14 #[.val (.ref t0), .val (.double d0), .second, .val (.double d1), .second, .val (.ref s0), .val (.ref s1)] [])) _
    refine XS.aloadN X8.here hx rfl (hb hby d1_14) rfl rfl ?_
    show Steps p.tables e below (T8.setTop (mkF m 15 #[.val (.ref t0), .val (.double d0), .second, .val (.double d1), .second, .val (.ref s0), .val (.ref s1)] [(.ref t0)])) _
    refine XS.aload X8.here hx rfl (hb hby d1_15) rfl rfl ?_
    show Steps p.tables e below (T8.setTop (mkF m 17 #[.val (.ref t0), .val (.double d0), .second, .val (.double d1), .second, .val (.ref s0), .val (.ref s1)] [(.ref s0), (.ref t0)])) _
    refine st14 _ ?_
    show Steps p.tables e below (T14.setTop (mkF m 20 #[.val (.ref t0), .val (.double d0), .second, .val (.double d1), .second, .val (.ref s0), .val (.ref s1)] [])) _
    refine XS.aloadN X14.here hx rfl (hb hby d1_20) rfl rfl ?_
    show Steps p.tables e below (T14.setTop (mkF m 21 #[.val (.ref t0), .val (.double d0), .second, .val (.double d1), .second, .val (.ref s0), .val (.ref s1)] [(.ref t0)])) _
    refine XS.aload X14.here hx rfl (hb hby d1_21) rfl rfl ?_
    show Steps p.tables e below (T14.setTop (mkF m 23 #[.val (.ref t0), .val (.double d0), .second, .val (.double d1), .second, .val (.ref s0), .val (.ref s1)] [(.ref s1), (.ref t0)])) _
    refine st20 _ ?_
    show Steps p.tables e below (T20.setTop (mkF m 26 #[.val (.ref t0), .val (.double d0), .second, .val (.double d1), .second, .val (.ref s0), .val (.ref s1)] [])) _
    exact X20.returnOut hx Bd.returns (hb hby d1_26) hr
  · show Q_rm1r Z t0 d0 d1 s0 s1 h0 n0 _ T20.heap _
    rw [e20]
    exact ⟨rfl, N20, K20, f21, f24, f25⟩
theorem ef_1_RDDnn (m : MethodId) (x0 : Addr) (x1 : UInt64) (x2 : UInt64) : entryFrame m #[(.ref x0), (.double x1), (.double x2), .null, .null] 7 = mkF m 0 #[.val (.ref x0), .val (.double x1), .second, .val (.double x2), .second, .val .null, .val .null] [] := by first | (simp [entryFrame, mkF, argsToLocals, Value.category]; done) | rfl
def Q_rm1n (Z : State) (t0 : Addr) (d0 : UInt64) (d1 : UInt64) (h0 : Heap) (n0 : Nat) (v : Option Value) (h : Heap) (L : List Loc) : Prop := v = none ∧ Fr n0 L ∧ Keep h0 h [t0] ∧ Exa Z h t0 "com/example/odds_on_counters/oddsoncounters/numeric/Jet" ∧ Fld Z h t0 "com/example/odds_on_counters/oddsoncounters/numeric/Jet" "slopeLow" "[D" .null ∧ Fld Z h t0 "com/example/odds_on_counters/oddsoncounters/numeric/Jet" "slopeHigh" "[D" .null
set_option maxRecDepth 65536 in
set_option maxHeartbeats 40000000 in
theorem rm1n (l : Launch) (Z : State) (a0 : Array Value) (hw : ∀ d ∈ tables_1, d.before a0 Z = true) (ws : List Jvm.Cond) (t0 : Addr) (d0 : UInt64) (d1 : UInt64) (h0 : Heap) (n0 : Nat) (Z0 : n0 ≤ h0.size) (E_t0 : Exa Z h0 t0 "com/example/odds_on_counters/oddsoncounters/numeric/Jet") (F_low_t0 : Fld Z h0 t0 "com/example/odds_on_counters/oddsoncounters/numeric/Jet" "low" "D" (.double (0 : UInt64))) (F_high_t0 : Fld Z h0 t0 "com/example/odds_on_counters/oddsoncounters/numeric/Jet" "high" "D" (.double (0 : UInt64))) (F_slopeLow_t0 : Fld Z h0 t0 "com/example/odds_on_counters/oddsoncounters/numeric/Jet" "slopeLow" "[D" .null) (F_slopeHigh_t0 : Fld Z h0 t0 "com/example/odds_on_counters/oddsoncounters/numeric/Jet" "slopeHigh" "[D" .null) (g_t0 : n0 ≤ t0) :
    MetFree l (⟨"com/example/odds_on_counters/oddsoncounters/numeric/Jet", "<init>", "(DD[D[D)V"⟩ : MethodName) (head1 (Jvm.Cond.code (⟨"com/example/odds_on_counters/oddsoncounters/numeric/Jet", "<init>", "(DD[D[D)V"⟩ : MethodName) prog_60_method_1_code 7 none :: ws) ({ frames := 1, cells := 0, slots := 0, locals := 12 } : Room)) (fun a U => a = #[(.ref t0), (.double d0), (.double d1), .null, .null] ∧ Z.Warmed39 U.vm ∧ U.heap = h0) (fun _ _ _ _ _ => True) (fun _ U o U' => ∃ v L, o = .returned v ∧ Q_rm1n Z t0 d0 d1 h0 n0 v U'.heap L ∧ FrameEnd U o U' L ({ frames := 1, cells := 0, slots := 0, locals := 12 } : Room).cells ({ frames := 1, cells := 0, slots := 0, locals := 12 } : Room).slots) := by
  refine MetFree.of_bodySF (plainFor_of_name pn_com_example_odds_on_counters_oddsoncounters_numeric_Jet) hisR ?_
  intro p e s m args below meth c s₁ Bd hml0 hP hK
  obtain ⟨rfl, hZ, hh⟩ := hP
  have hx := Bd.exec
  have hby := Bd.bytes
  have hml : c.maxLocals = 7 := hml0
  have hown : s.vm.findClass "com/example/odds_on_counters/oddsoncounters/numeric/Jet" = some m.cls := findClass_of_methodNamed Bd.named
  have hnm := (name_of_methodNamed Bd.named Bd.method).1
  have X0 : Stand p l e ({ frames := 1, cells := 0, slots := 0, locals := 12 } : Room) s m #[(.ref t0), (.double d0), (.double d1), .null, .null] below meth c s₁ [] 0 0 := Stand.of_body Bd
  have e0 : s₁.heap = h0 := by rw [← hh, Bd.state]; rfl
  have N0 := Fr.nil n0
  have pre0 : ∀ t, Steps p.tables e below (s₁.setTop (mkF m 0 #[.val (.ref t0), .val (.double d0), .second, .val (.double d1), .second, .val .null, .val .null] [])) t → Steps p.tables e below (s₁.setTop (entryFrame m #[(.ref t0), (.double d0), (.double d1), .null, .null] 7)) t := fun t k => castTop (ef_1_RDDnn m t0 d0 d1) k
  obtain ⟨T1, X1, e1, st1⟩ := initO X0 hx hZ hown (hw _ (List.mem_of_getElem? (i := 8) rfl)) (hw _ (List.mem_of_getElem? (i := 9) rfl)) (hw _ (List.mem_of_getElem? (i := 10) rfl)) e0 (g := (mkF m 1 #[.val (.ref t0), .val (.double d0), .second, .val (.double d1), .second, .val .null, .val .null] [(.ref t0)])) rfl (by rw [hml]; rfl) rfl (hb hby d1_1) (by decide) (W := 0) (by show 2 * 0 + _ ≤ _; exact Nat.le_of_eq rfl) (by decide)
  obtain ⟨T2, h2, X2, e2, W2, st2⟩ := putF X1 hx hZ hown (host := "") (Or.inl (hw _ (List.mem_of_getElem? (i := 11) rfl))) Via.refl e1 F_low_t0 E_t0 (Or.inr ⟨(hw _ (List.mem_of_getElem? (i := 12) rfl)), rfl, hnm⟩) (hw _ (List.mem_of_getElem? (i := 3) rfl)) (ty := .double) (by decide) rfl rfl (g := (mkF m 6 #[.val (.ref t0), .val (.double d0), .second, .val (.double d1), .second, .val .null, .val .null] [(.double d0), (.ref t0)])) rfl rfl (hb hby d1_6)
  have f3 := E_t0.wr W2
  have f4 := F_high_t0.other W2 (Or.inr (so_Jet_high_low hw))
  have f5 := F_slopeLow_t0.other W2 (Or.inr (so_Jet_slopeLow_low hw))
  have f6 := F_slopeHigh_t0.other W2 (Or.inr (so_Jet_slopeHigh_low hw))
  have K2 : Keep h0 h2 [t0] := (Keep.refl h0 [t0]).wr W2 (Or.inl (List.mem_of_getElem? (i := 0) rfl))
  have Zs2 := Nat.le_trans Z0 (Keep.of_wr W2).1
  have N2 := Fr.snoc X2 N0 g_t0
  have f7 : Fld Z h2 t0 "com/example/odds_on_counters/oddsoncounters/numeric/Jet" "low" "D" (.double d0) := F_low_t0.same W2
  obtain ⟨T8, h8, X8, e8, W8, st8⟩ := putF X2 hx hZ hown (host := "") (Or.inl (hw _ (List.mem_of_getElem? (i := 13) rfl))) Via.refl e2 f4 f3 (Or.inr ⟨(hw _ (List.mem_of_getElem? (i := 14) rfl)), rfl, hnm⟩) (hw _ (List.mem_of_getElem? (i := 3) rfl)) (ty := .double) (by decide) rfl rfl (g := (mkF m 11 #[.val (.ref t0), .val (.double d0), .second, .val (.double d1), .second, .val .null, .val .null] [(.double d1), (.ref t0)])) rfl rfl (hb hby d1_11)
  have f9 := f3.wr W8
  have f10 := f7.other W8 (Or.inr (so_Jet_low_high hw))
  have f11 := f5.other W8 (Or.inr (so_Jet_slopeLow_high hw))
  have f12 := f6.other W8 (Or.inr (so_Jet_slopeHigh_high hw))
  have K8 : Keep h0 h8 [t0] := K2.wr W8 (Or.inl (List.mem_of_getElem? (i := 0) rfl))
  have Zs8 := Nat.le_trans Zs2 (Keep.of_wr W8).1
  have N8 := Fr.snoc X8 N2 g_t0
  have f13 : Fld Z h8 t0 "com/example/odds_on_counters/oddsoncounters/numeric/Jet" "high" "D" (.double d1) := f4.same W8
  obtain ⟨T14, h14, X14, e14, W14, st14⟩ := putF X8 hx hZ hown (host := "") (Or.inl (hw _ (List.mem_of_getElem? (i := 15) rfl))) Via.refl e8 f11 f9 (Or.inr ⟨(hw _ (List.mem_of_getElem? (i := 16) rfl)), rfl, hnm⟩) (hw _ (List.mem_of_getElem? (i := 3) rfl)) (ty := (.array .double)) (by decide) rfl rfl (g := (mkF m 17 #[.val (.ref t0), .val (.double d0), .second, .val (.double d1), .second, .val .null, .val .null] [.null, (.ref t0)])) rfl rfl (hb hby d1_17)
  have f15 := f9.wr W14
  have f16 := f10.other W14 (Or.inr (so_Jet_low_slopeLow hw))
  have f17 := f13.other W14 (Or.inr (so_Jet_high_slopeLow hw))
  have f18 := f12.other W14 (Or.inr (so_Jet_slopeHigh_slopeLow hw))
  have K14 : Keep h0 h14 [t0] := K8.wr W14 (Or.inl (List.mem_of_getElem? (i := 0) rfl))
  have Zs14 := Nat.le_trans Zs8 (Keep.of_wr W14).1
  have N14 := Fr.snoc X14 N8 g_t0
  have f19 : Fld Z h14 t0 "com/example/odds_on_counters/oddsoncounters/numeric/Jet" "slopeLow" "[D" .null := f11.same W14
  obtain ⟨T20, h20, X20, e20, W20, st20⟩ := putF X14 hx hZ hown (host := "") (Or.inl (hw _ (List.mem_of_getElem? (i := 17) rfl))) Via.refl e14 f18 f15 (Or.inr ⟨(hw _ (List.mem_of_getElem? (i := 18) rfl)), rfl, hnm⟩) (hw _ (List.mem_of_getElem? (i := 3) rfl)) (ty := (.array .double)) (by decide) rfl rfl (g := (mkF m 23 #[.val (.ref t0), .val (.double d0), .second, .val (.double d1), .second, .val .null, .val .null] [.null, (.ref t0)])) rfl rfl (hb hby d1_23)
  have f21 := f15.wr W20
  have f22 := f16.other W20 (Or.inr (so_Jet_low_slopeHigh hw))
  have f23 := f17.other W20 (Or.inr (so_Jet_high_slopeHigh hw))
  have f24 := f19.other W20 (Or.inr (so_Jet_slopeLow_slopeHigh hw))
  have K20 : Keep h0 h20 [t0] := K14.wr W20 (Or.inl (List.mem_of_getElem? (i := 0) rfl))
  have Zs20 := Nat.le_trans Zs14 (Keep.of_wr W20).1
  have N20 := Fr.snoc X20 N14 g_t0
  have f25 : Fld Z h20 t0 "com/example/odds_on_counters/oddsoncounters/numeric/Jet" "slopeHigh" "[D" .null := f18.same W20
  obtain ⟨fs, hr, hrun, hended, hW, hsame⟩ := X20.leave (v := none) (fun _ => rfl)
  refine ⟨_, _, pre0 _ ?_, hrun, hended, _, _, rfl, ?_, ⟨_, rfl⟩, hW, hsame.mono (by decide) (by decide)⟩
  · show Steps p.tables e below (s₁.setTop (mkF m 0 #[.val (.ref t0), .val (.double d0), .second, .val (.double d1), .second, .val .null, .val .null] [])) _
    refine XS.aloadN X0.here hx rfl (hb hby d1_0) rfl rfl ?_
    show Steps p.tables e below (s₁.setTop (mkF m 1 #[.val (.ref t0), .val (.double d0), .second, .val (.double d1), .second, .val .null, .val .null] [(.ref t0)])) _
    refine st1 _ ?_
    show Steps p.tables e below (T1.setTop (mkF m 4 #[.val (.ref t0), .val (.double d0), .second, .val (.double d1), .second, .val .null, .val .null] [])) _
    refine XS.aloadN X1.here hx rfl (hb hby d1_4) rfl rfl ?_
    show Steps p.tables e below (T1.setTop (mkF m 5 #[.val (.ref t0), .val (.double d0), .second, .val (.double d1), .second, .val .null, .val .null] [(.ref t0)])) _
    refine XS.dloadN X1.here hx rfl (hb hby d1_5) rfl ?_
    show Steps p.tables e below (T1.setTop (mkF m 6 #[.val (.ref t0), .val (.double d0), .second, .val (.double d1), .second, .val .null, .val .null] [(.double d0), (.ref t0)])) _
    refine st2 _ ?_
    show Steps p.tables e below (T2.setTop (mkF m 9 #[.val (.ref t0), .val (.double d0), .second, .val (.double d1), .second, .val .null, .val .null] [])) _
    refine XS.aloadN X2.here hx rfl (hb hby d1_9) rfl rfl ?_
    show Steps p.tables e below (T2.setTop (mkF m 10 #[.val (.ref t0), .val (.double d0), .second, .val (.double d1), .second, .val .null, .val .null] [(.ref t0)])) _
    refine XS.dloadN X2.here hx rfl (hb hby d1_10) rfl ?_
    show Steps p.tables e below (T2.setTop (mkF m 11 #[.val (.ref t0), .val (.double d0), .second, .val (.double d1), .second, .val .null, .val .null] [(.double d1), (.ref t0)])) _
    refine st8 _ ?_
    show Steps p.tables e below (T8.setTop (mkF m 14 #[.val (.ref t0), .val (.double d0), .second, .val (.double d1), .second, .val .null, .val .null] [])) _
    refine XS.aloadN X8.here hx rfl (hb hby d1_14) rfl rfl ?_
    show Steps p.tables e below (T8.setTop (mkF m 15 #[.val (.ref t0), .val (.double d0), .second, .val (.double d1), .second, .val .null, .val .null] [(.ref t0)])) _
    refine XS.aload X8.here hx rfl (hb hby d1_15) rfl rfl ?_
    show Steps p.tables e below (T8.setTop (mkF m 17 #[.val (.ref t0), .val (.double d0), .second, .val (.double d1), .second, .val .null, .val .null] [.null, (.ref t0)])) _
    refine st14 _ ?_
    show Steps p.tables e below (T14.setTop (mkF m 20 #[.val (.ref t0), .val (.double d0), .second, .val (.double d1), .second, .val .null, .val .null] [])) _
    refine XS.aloadN X14.here hx rfl (hb hby d1_20) rfl rfl ?_
    show Steps p.tables e below (T14.setTop (mkF m 21 #[.val (.ref t0), .val (.double d0), .second, .val (.double d1), .second, .val .null, .val .null] [(.ref t0)])) _
    refine XS.aload X14.here hx rfl (hb hby d1_21) rfl rfl ?_
    show Steps p.tables e below (T14.setTop (mkF m 23 #[.val (.ref t0), .val (.double d0), .second, .val (.double d1), .second, .val .null, .val .null] [.null, (.ref t0)])) _
    refine st20 _ ?_
    show Steps p.tables e below (T20.setTop (mkF m 26 #[.val (.ref t0), .val (.double d0), .second, .val (.double d1), .second, .val .null, .val .null] [])) _
    exact X20.returnOut hx Bd.returns (hb hby d1_26) hr
  · show Q_rm1n Z t0 d0 d1 h0 n0 _ T20.heap _
    rw [e20]
    exact ⟨rfl, N20, K20, f21, f24, f25⟩
theorem d3_0 : decode prog_60_method_8_code 0 = .ok (.aload_n 0, 1) := by decide +kernel
theorem d3_1 : decode prog_60_method_8_code 1 = .ok (.getfield 16, 3) := by decide +kernel
theorem d3_4 : decode prog_60_method_8_code 4 = .ok (.ifnonnull 7, 3) := by decide +kernel
theorem d3_7 : decode prog_60_method_8_code 7 = .ok (.iconst 1, 1) := by decide +kernel
theorem d3_8 : decode prog_60_method_8_code 8 = .ok (.goto 4, 3) := by decide +kernel
theorem d3_12 : decode prog_60_method_8_code 12 = .ok (.ireturn, 1) := by decide +kernel
theorem ef_3_R (m : MethodId) (x0 : Addr) : entryFrame m #[(.ref x0)] 1 = mkF m 0 #[.val (.ref x0)] [] := by first | (simp [entryFrame, mkF, argsToLocals, Value.category]; done) | rfl
def Q_rm3_n (Z : State) (t0 : Addr) (h0 : Heap) (n0 : Nat) (v : Option Value) (h : Heap) (L : List Loc) : Prop := v = some (.int (1 : Int32)) ∧ Fr n0 L ∧ h = h0
set_option maxRecDepth 65536 in
set_option maxHeartbeats 40000000 in
theorem rm3_n (l : Launch) (Z : State) (a0 : Array Value) (hw : ∀ d ∈ tables_1, d.before a0 Z = true) (ws : List Jvm.Cond) (t0 : Addr) (h0 : Heap) (n0 : Nat) (Z0 : n0 ≤ h0.size) (F_slopeLow_t0 : Fld Z h0 t0 "com/example/odds_on_counters/oddsoncounters/numeric/Jet" "slopeLow" "[D" .null) :
    MetFree l (⟨"com/example/odds_on_counters/oddsoncounters/numeric/Jet", "isConstant", "()Z"⟩ : MethodName) (head1 (Jvm.Cond.code (⟨"com/example/odds_on_counters/oddsoncounters/numeric/Jet", "isConstant", "()Z"⟩ : MethodName) prog_60_method_8_code 1 (some .boolean) :: ws) ({ frames := 0, cells := 0, slots := 0, locals := 0 } : Room)) (fun a U => a = #[(.ref t0)] ∧ Z.Warmed39 U.vm ∧ U.heap = h0) (fun _ _ _ _ _ => True) (fun _ U o U' => ∃ v L, o = .returned v ∧ Q_rm3_n Z t0 h0 n0 v U'.heap L ∧ FrameEnd U o U' L ({ frames := 0, cells := 0, slots := 0, locals := 0 } : Room).cells ({ frames := 0, cells := 0, slots := 0, locals := 0 } : Room).slots) := by
  refine MetFree.of_bodySF (plainFor_of_name pn_com_example_odds_on_counters_oddsoncounters_numeric_Jet) hisR ?_
  intro p e s m args below meth c s₁ Bd hml0 hP hK
  obtain ⟨rfl, hZ, hh⟩ := hP
  have hx := Bd.exec
  have hby := Bd.bytes
  have hml : c.maxLocals = 1 := hml0
  have hown : s.vm.findClass "com/example/odds_on_counters/oddsoncounters/numeric/Jet" = some m.cls := findClass_of_methodNamed Bd.named
  have hnm := (name_of_methodNamed Bd.named Bd.method).1
  have X0 : Stand p l e ({ frames := 0, cells := 0, slots := 0, locals := 0 } : Room) s m #[(.ref t0)] below meth c s₁ [] 0 0 := Stand.of_body Bd
  have e0 : s₁.heap = h0 := by rw [← hh, Bd.state]; rfl
  have N0 := Fr.nil n0
  have pre0 : ∀ t, Steps p.tables e below (s₁.setTop (mkF m 0 #[.val (.ref t0)] [])) t → Steps p.tables e below (s₁.setTop (entryFrame m #[(.ref t0)] 1)) t := fun t k => castTop (ef_3_R m t0) k
  obtain ⟨T1, X1, e1, st1⟩ := getF X0 hx hZ hown (host := "") (Or.inl (hw _ (List.mem_of_getElem? (i := 15) rfl))) Via.refl e0 F_slopeLow_t0 (g := (mkF m 1 #[.val (.ref t0)] [(.ref t0)])) rfl rfl (hb hby d3_1)
  obtain ⟨fs, hr, hrun, hended, hW, hsame⟩ := X1.leave (v := some (.int (1 : Int32))) (fun h => by rw [Bd.returns] at h; cases h)
  refine ⟨_, _, pre0 _ ?_, hrun, hended, _, _, rfl, ?_, ⟨_, rfl⟩, hW, hsame.mono (by decide) (by decide)⟩
  · show Steps p.tables e below (s₁.setTop (mkF m 0 #[.val (.ref t0)] [])) _
    refine XS.aloadN X0.here hx rfl (hb hby d3_0) rfl rfl ?_
    show Steps p.tables e below (s₁.setTop (mkF m 1 #[.val (.ref t0)] [(.ref t0)])) _
    refine st1 _ ?_
    show Steps p.tables e below (T1.setTop (mkF m 4 #[.val (.ref t0)] [.null])) _
    refine XS.ifnonnullNo X1.here hx rfl (hb hby d3_4) rfl ?_
    show Steps p.tables e below (T1.setTop (mkF m 7 #[.val (.ref t0)] [])) _
    refine XS.iconst X1.here hx rfl (hb hby d3_7) ?_
    show Steps p.tables e below (T1.setTop (mkF m 8 #[.val (.ref t0)] [(.int (1 : Int32))])) _
    refine XS.goto X1.here hx rfl (pc0 := 8) (pc' := 12) rfl (hb hby d3_8) (by decide) (by decide) ?_
    show Steps p.tables e below (T1.setTop (mkF m 12 #[.val (.ref t0)] [(.int (1 : Int32))])) _
    exact retN X1 hx (t := .boolean) Bd.returns (by simp) (hb hby d3_12) hr
  · show Q_rm3_n Z t0 h0 n0 _ T1.heap _
    rw [e1]
    exact ⟨rfl, N0, rfl⟩
theorem d3_11 : decode prog_60_method_8_code 11 = .ok (.iconst 0, 1) := by decide +kernel
def Q_rm3_r (Z : State) (t0 : Addr) (s0 : Addr) (h0 : Heap) (n0 : Nat) (v : Option Value) (h : Heap) (L : List Loc) : Prop := v = some (.int (0 : Int32)) ∧ Fr n0 L ∧ h = h0
set_option maxRecDepth 65536 in
set_option maxHeartbeats 40000000 in
theorem rm3_r (l : Launch) (Z : State) (a0 : Array Value) (hw : ∀ d ∈ tables_1, d.before a0 Z = true) (ws : List Jvm.Cond) (t0 : Addr) (s0 : Addr) (h0 : Heap) (n0 : Nat) (Z0 : n0 ≤ h0.size) (F_slopeLow_t0 : Fld Z h0 t0 "com/example/odds_on_counters/oddsoncounters/numeric/Jet" "slopeLow" "[D" (.ref s0)) :
    MetFree l (⟨"com/example/odds_on_counters/oddsoncounters/numeric/Jet", "isConstant", "()Z"⟩ : MethodName) (head1 (Jvm.Cond.code (⟨"com/example/odds_on_counters/oddsoncounters/numeric/Jet", "isConstant", "()Z"⟩ : MethodName) prog_60_method_8_code 1 (some .boolean) :: ws) ({ frames := 0, cells := 0, slots := 0, locals := 0 } : Room)) (fun a U => a = #[(.ref t0)] ∧ Z.Warmed39 U.vm ∧ U.heap = h0) (fun _ _ _ _ _ => True) (fun _ U o U' => ∃ v L, o = .returned v ∧ Q_rm3_r Z t0 s0 h0 n0 v U'.heap L ∧ FrameEnd U o U' L ({ frames := 0, cells := 0, slots := 0, locals := 0 } : Room).cells ({ frames := 0, cells := 0, slots := 0, locals := 0 } : Room).slots) := by
  refine MetFree.of_bodySF (plainFor_of_name pn_com_example_odds_on_counters_oddsoncounters_numeric_Jet) hisR ?_
  intro p e s m args below meth c s₁ Bd hml0 hP hK
  obtain ⟨rfl, hZ, hh⟩ := hP
  have hx := Bd.exec
  have hby := Bd.bytes
  have hml : c.maxLocals = 1 := hml0
  have hown : s.vm.findClass "com/example/odds_on_counters/oddsoncounters/numeric/Jet" = some m.cls := findClass_of_methodNamed Bd.named
  have hnm := (name_of_methodNamed Bd.named Bd.method).1
  have X0 : Stand p l e ({ frames := 0, cells := 0, slots := 0, locals := 0 } : Room) s m #[(.ref t0)] below meth c s₁ [] 0 0 := Stand.of_body Bd
  have e0 : s₁.heap = h0 := by rw [← hh, Bd.state]; rfl
  have N0 := Fr.nil n0
  have pre0 : ∀ t, Steps p.tables e below (s₁.setTop (mkF m 0 #[.val (.ref t0)] [])) t → Steps p.tables e below (s₁.setTop (entryFrame m #[(.ref t0)] 1)) t := fun t k => castTop (ef_3_R m t0) k
  obtain ⟨T1, X1, e1, st1⟩ := getF X0 hx hZ hown (host := "") (Or.inl (hw _ (List.mem_of_getElem? (i := 15) rfl))) Via.refl e0 F_slopeLow_t0 (g := (mkF m 1 #[.val (.ref t0)] [(.ref t0)])) rfl rfl (hb hby d3_1)
  obtain ⟨fs, hr, hrun, hended, hW, hsame⟩ := X1.leave (v := some (.int (0 : Int32))) (fun h => by rw [Bd.returns] at h; cases h)
  refine ⟨_, _, pre0 _ ?_, hrun, hended, _, _, rfl, ?_, ⟨_, rfl⟩, hW, hsame.mono (by decide) (by decide)⟩
  · show Steps p.tables e below (s₁.setTop (mkF m 0 #[.val (.ref t0)] [])) _
    refine XS.aloadN X0.here hx rfl (hb hby d3_0) rfl rfl ?_
    show Steps p.tables e below (s₁.setTop (mkF m 1 #[.val (.ref t0)] [(.ref t0)])) _
    refine st1 _ ?_
    show Steps p.tables e below (T1.setTop (mkF m 4 #[.val (.ref t0)] [(.ref s0)])) _
    refine XS.ifnonnullYes X1.here hx rfl (pc0 := 4) (pc' := 11) rfl (hb hby d3_4) rfl (by decide) (by decide) ?_
    show Steps p.tables e below (T1.setTop (mkF m 11 #[.val (.ref t0)] [])) _
    refine XS.iconst X1.here hx rfl (hb hby d3_11) ?_
    show Steps p.tables e below (T1.setTop (mkF m 12 #[.val (.ref t0)] [(.int (0 : Int32))])) _
    exact retN X1 hx (t := .boolean) Bd.returns (by simp) (hb hby d3_12) hr
  · show Q_rm3_r Z t0 s0 h0 n0 _ T1.heap _
    rw [e1]
    exact ⟨rfl, N0, rfl⟩
theorem d4_0 : decode prog_60_method_6_code 0 = .ok (.aload_n 0, 1) := by decide +kernel
theorem d4_1 : decode prog_60_method_6_code 1 = .ok (.getfield 16, 3) := by decide +kernel
theorem d4_4 : decode prog_60_method_6_code 4 = .ok (.areturn, 1) := by decide +kernel
theorem ef_4_R (m : MethodId) (x0 : Addr) : entryFrame m #[(.ref x0)] 1 = mkF m 0 #[.val (.ref x0)] [] := by first | (simp [entryFrame, mkF, argsToLocals, Value.category]; done) | rfl
def Q_rm4_n (Z : State) (t0 : Addr) (h0 : Heap) (n0 : Nat) (v : Option Value) (h : Heap) (L : List Loc) : Prop := v = some .null ∧ Fr n0 L ∧ h = h0
set_option maxRecDepth 65536 in
set_option maxHeartbeats 40000000 in
theorem rm4_n (l : Launch) (Z : State) (a0 : Array Value) (hw : ∀ d ∈ tables_1, d.before a0 Z = true) (ws : List Jvm.Cond) (t0 : Addr) (h0 : Heap) (n0 : Nat) (Z0 : n0 ≤ h0.size) (F_slopeLow_t0 : Fld Z h0 t0 "com/example/odds_on_counters/oddsoncounters/numeric/Jet" "slopeLow" "[D" .null) :
    MetFree l (⟨"com/example/odds_on_counters/oddsoncounters/numeric/Jet", "slopeLows", "()[D"⟩ : MethodName) (head1 (Jvm.Cond.code (⟨"com/example/odds_on_counters/oddsoncounters/numeric/Jet", "slopeLows", "()[D"⟩ : MethodName) prog_60_method_6_code 1 (some (.array .double)) :: ws) ({ frames := 0, cells := 0, slots := 0, locals := 0 } : Room)) (fun a U => a = #[(.ref t0)] ∧ Z.Warmed39 U.vm ∧ U.heap = h0) (fun _ _ _ _ _ => True) (fun _ U o U' => ∃ v L, o = .returned v ∧ Q_rm4_n Z t0 h0 n0 v U'.heap L ∧ FrameEnd U o U' L ({ frames := 0, cells := 0, slots := 0, locals := 0 } : Room).cells ({ frames := 0, cells := 0, slots := 0, locals := 0 } : Room).slots) := by
  refine MetFree.of_bodySF (plainFor_of_name pn_com_example_odds_on_counters_oddsoncounters_numeric_Jet) hisR ?_
  intro p e s m args below meth c s₁ Bd hml0 hP hK
  obtain ⟨rfl, hZ, hh⟩ := hP
  have hx := Bd.exec
  have hby := Bd.bytes
  have hml : c.maxLocals = 1 := hml0
  have hown : s.vm.findClass "com/example/odds_on_counters/oddsoncounters/numeric/Jet" = some m.cls := findClass_of_methodNamed Bd.named
  have hnm := (name_of_methodNamed Bd.named Bd.method).1
  have X0 : Stand p l e ({ frames := 0, cells := 0, slots := 0, locals := 0 } : Room) s m #[(.ref t0)] below meth c s₁ [] 0 0 := Stand.of_body Bd
  have e0 : s₁.heap = h0 := by rw [← hh, Bd.state]; rfl
  have N0 := Fr.nil n0
  have pre0 : ∀ t, Steps p.tables e below (s₁.setTop (mkF m 0 #[.val (.ref t0)] [])) t → Steps p.tables e below (s₁.setTop (entryFrame m #[(.ref t0)] 1)) t := fun t k => castTop (ef_4_R m t0) k
  obtain ⟨T1, X1, e1, st1⟩ := getF X0 hx hZ hown (host := "") (Or.inl (hw _ (List.mem_of_getElem? (i := 15) rfl))) Via.refl e0 F_slopeLow_t0 (g := (mkF m 1 #[.val (.ref t0)] [(.ref t0)])) rfl rfl (hb hby d4_1)
  obtain ⟨fs, hr, hrun, hended, hW, hsame⟩ := X1.leave (v := some .null) (fun h => by rw [Bd.returns] at h; cases h)
  refine ⟨_, _, pre0 _ ?_, hrun, hended, _, _, rfl, ?_, ⟨_, rfl⟩, hW, hsame.mono (by decide) (by decide)⟩
  · show Steps p.tables e below (s₁.setTop (mkF m 0 #[.val (.ref t0)] [])) _
    refine XS.aloadN X0.here hx rfl (hb hby d4_0) rfl rfl ?_
    show Steps p.tables e below (s₁.setTop (mkF m 1 #[.val (.ref t0)] [(.ref t0)])) _
    refine st1 _ ?_
    show Steps p.tables e below (T1.setTop (mkF m 4 #[.val (.ref t0)] [.null])) _
    exact retOut X1 hx Bd.returns rfl (Or.inr (Or.inr (Or.inr (Or.inr ⟨rfl, rfl, rfl⟩)))) (hb hby d4_4) hr
  · show Q_rm4_n Z t0 h0 n0 _ T1.heap _
    rw [e1]
    exact ⟨rfl, N0, rfl⟩
def Q_rm4_r (Z : State) (t0 : Addr) (s0 : Addr) (h0 : Heap) (n0 : Nat) (v : Option Value) (h : Heap) (L : List Loc) : Prop := v = some (.ref s0) ∧ Fr n0 L ∧ h = h0
set_option maxRecDepth 65536 in
set_option maxHeartbeats 40000000 in
theorem rm4_r (l : Launch) (Z : State) (a0 : Array Value) (hw : ∀ d ∈ tables_1, d.before a0 Z = true) (ws : List Jvm.Cond) (t0 : Addr) (s0 : Addr) (h0 : Heap) (n0 : Nat) (Z0 : n0 ≤ h0.size) (F_slopeLow_t0 : Fld Z h0 t0 "com/example/odds_on_counters/oddsoncounters/numeric/Jet" "slopeLow" "[D" (.ref s0)) :
    MetFree l (⟨"com/example/odds_on_counters/oddsoncounters/numeric/Jet", "slopeLows", "()[D"⟩ : MethodName) (head1 (Jvm.Cond.code (⟨"com/example/odds_on_counters/oddsoncounters/numeric/Jet", "slopeLows", "()[D"⟩ : MethodName) prog_60_method_6_code 1 (some (.array .double)) :: ws) ({ frames := 0, cells := 0, slots := 0, locals := 0 } : Room)) (fun a U => a = #[(.ref t0)] ∧ Z.Warmed39 U.vm ∧ U.heap = h0) (fun _ _ _ _ _ => True) (fun _ U o U' => ∃ v L, o = .returned v ∧ Q_rm4_r Z t0 s0 h0 n0 v U'.heap L ∧ FrameEnd U o U' L ({ frames := 0, cells := 0, slots := 0, locals := 0 } : Room).cells ({ frames := 0, cells := 0, slots := 0, locals := 0 } : Room).slots) := by
  refine MetFree.of_bodySF (plainFor_of_name pn_com_example_odds_on_counters_oddsoncounters_numeric_Jet) hisR ?_
  intro p e s m args below meth c s₁ Bd hml0 hP hK
  obtain ⟨rfl, hZ, hh⟩ := hP
  have hx := Bd.exec
  have hby := Bd.bytes
  have hml : c.maxLocals = 1 := hml0
  have hown : s.vm.findClass "com/example/odds_on_counters/oddsoncounters/numeric/Jet" = some m.cls := findClass_of_methodNamed Bd.named
  have hnm := (name_of_methodNamed Bd.named Bd.method).1
  have X0 : Stand p l e ({ frames := 0, cells := 0, slots := 0, locals := 0 } : Room) s m #[(.ref t0)] below meth c s₁ [] 0 0 := Stand.of_body Bd
  have e0 : s₁.heap = h0 := by rw [← hh, Bd.state]; rfl
  have N0 := Fr.nil n0
  have pre0 : ∀ t, Steps p.tables e below (s₁.setTop (mkF m 0 #[.val (.ref t0)] [])) t → Steps p.tables e below (s₁.setTop (entryFrame m #[(.ref t0)] 1)) t := fun t k => castTop (ef_4_R m t0) k
  obtain ⟨T1, X1, e1, st1⟩ := getF X0 hx hZ hown (host := "") (Or.inl (hw _ (List.mem_of_getElem? (i := 15) rfl))) Via.refl e0 F_slopeLow_t0 (g := (mkF m 1 #[.val (.ref t0)] [(.ref t0)])) rfl rfl (hb hby d4_1)
  obtain ⟨fs, hr, hrun, hended, hW, hsame⟩ := X1.leave (v := some (.ref s0)) (fun h => by rw [Bd.returns] at h; cases h)
  refine ⟨_, _, pre0 _ ?_, hrun, hended, _, _, rfl, ?_, ⟨_, rfl⟩, hW, hsame.mono (by decide) (by decide)⟩
  · show Steps p.tables e below (s₁.setTop (mkF m 0 #[.val (.ref t0)] [])) _
    refine XS.aloadN X0.here hx rfl (hb hby d4_0) rfl rfl ?_
    show Steps p.tables e below (s₁.setTop (mkF m 1 #[.val (.ref t0)] [(.ref t0)])) _
    refine st1 _ ?_
    show Steps p.tables e below (T1.setTop (mkF m 4 #[.val (.ref t0)] [(.ref s0)])) _
    exact retOut X1 hx Bd.returns rfl (Or.inr (Or.inr (Or.inr (Or.inr ⟨rfl, rfl, rfl⟩)))) (hb hby d4_4) hr
  · show Q_rm4_r Z t0 s0 h0 n0 _ T1.heap _
    rw [e1]
    exact ⟨rfl, N0, rfl⟩
theorem d5_0 : decode prog_60_method_4_code 0 = .ok (.aload_n 0, 1) := by decide +kernel
theorem d5_1 : decode prog_60_method_4_code 1 = .ok (.getfield 16, 3) := by decide +kernel
theorem d5_4 : decode prog_60_method_4_code 4 = .ok (.ifnonnull 7, 3) := by decide +kernel
theorem d5_11 : decode prog_60_method_4_code 11 = .ok (.aload_n 0, 1) := by decide +kernel
theorem d5_12 : decode prog_60_method_4_code 12 = .ok (.getfield 16, 3) := by decide +kernel
theorem d5_15 : decode prog_60_method_4_code 15 = .ok (.iload_n 1, 1) := by decide +kernel
theorem d5_16 : decode prog_60_method_4_code 16 = .ok (.daload, 1) := by decide +kernel
theorem d5_17 : decode prog_60_method_4_code 17 = .ok (.dreturn, 1) := by decide +kernel
theorem ef_5_Rl_0___Int32_ (m : MethodId) (x0 : Addr) : entryFrame m #[(.ref x0), (.int (0 : Int32))] 2 = mkF m 0 #[.val (.ref x0), .val (.int (0 : Int32))] [] := by first | (simp [entryFrame, mkF, argsToLocals, Value.category]; done) | rfl
def Q_rm5_0 (Z : State) (t0 : Addr) (s0 : Addr) (k0 : ClassId) (x0 : UInt64) (h0 : Heap) (n0 : Nat) (v : Option Value) (h : Heap) (L : List Loc) : Prop := v = some (.double x0) ∧ Fr n0 L ∧ h = h0
set_option maxRecDepth 65536 in
set_option maxHeartbeats 40000000 in
theorem rm5_0 (l : Launch) (Z : State) (a0 : Array Value) (hw : ∀ d ∈ tables_1, d.before a0 Z = true) (ws : List Jvm.Cond) (t0 : Addr) (s0 : Addr) (k0 : ClassId) (x0 : UInt64) (h0 : Heap) (n0 : Nat) (Z0 : n0 ≤ h0.size) (F_slopeLow_t0 : Fld Z h0 t0 "com/example/odds_on_counters/oddsoncounters/numeric/Jet" "slopeLow" "[D" (.ref s0)) (V_s0 : Arv Z h0 s0 k0 .double (1 : Int32) [(.double x0)] (.double (0 : UInt64))) :
    MetFree l (⟨"com/example/odds_on_counters/oddsoncounters/numeric/Jet", "slopeLow", "(I)D"⟩ : MethodName) (head1 (Jvm.Cond.code (⟨"com/example/odds_on_counters/oddsoncounters/numeric/Jet", "slopeLow", "(I)D"⟩ : MethodName) prog_60_method_4_code 2 (some .double) :: ws) ({ frames := 0, cells := 0, slots := 0, locals := 0 } : Room)) (fun a U => a = #[(.ref t0), (.int (0 : Int32))] ∧ Z.Warmed39 U.vm ∧ U.heap = h0) (fun _ _ _ _ _ => True) (fun _ U o U' => ∃ v L, o = .returned v ∧ Q_rm5_0 Z t0 s0 k0 x0 h0 n0 v U'.heap L ∧ FrameEnd U o U' L ({ frames := 0, cells := 0, slots := 0, locals := 0 } : Room).cells ({ frames := 0, cells := 0, slots := 0, locals := 0 } : Room).slots) := by
  refine MetFree.of_bodySF (plainFor_of_name pn_com_example_odds_on_counters_oddsoncounters_numeric_Jet) hisR ?_
  intro p e s m args below meth c s₁ Bd hml0 hP hK
  obtain ⟨rfl, hZ, hh⟩ := hP
  have hx := Bd.exec
  have hby := Bd.bytes
  have hml : c.maxLocals = 2 := hml0
  have hown : s.vm.findClass "com/example/odds_on_counters/oddsoncounters/numeric/Jet" = some m.cls := findClass_of_methodNamed Bd.named
  have hnm := (name_of_methodNamed Bd.named Bd.method).1
  have X0 : Stand p l e ({ frames := 0, cells := 0, slots := 0, locals := 0 } : Room) s m #[(.ref t0), (.int (0 : Int32))] below meth c s₁ [] 0 0 := Stand.of_body Bd
  have e0 : s₁.heap = h0 := by rw [← hh, Bd.state]; rfl
  have N0 := Fr.nil n0
  have pre0 : ∀ t, Steps p.tables e below (s₁.setTop (mkF m 0 #[.val (.ref t0), .val (.int (0 : Int32))] [])) t → Steps p.tables e below (s₁.setTop (entryFrame m #[(.ref t0), (.int (0 : Int32))] 2)) t := fun t k => castTop (ef_5_Rl_0___Int32_ m t0) k
  obtain ⟨T1, X1, e1, st1⟩ := getF X0 hx hZ hown (host := "") (Or.inl (hw _ (List.mem_of_getElem? (i := 15) rfl))) Via.refl e0 F_slopeLow_t0 (g := (mkF m 1 #[.val (.ref t0), .val (.int (0 : Int32))] [(.ref t0)])) rfl rfl (hb hby d5_1)
  obtain ⟨T2, X2, e2, st2⟩ := getF X1 hx hZ hown (host := "") (Or.inl (hw _ (List.mem_of_getElem? (i := 15) rfl))) Via.refl e1 F_slopeLow_t0 (g := (mkF m 12 #[.val (.ref t0), .val (.int (0 : Int32))] [(.ref t0)])) rfl rfl (hb hby d5_12)
  obtain ⟨cq3, Arq3, -, Sq3, -, Hq3, -⟩ := V_s0
  obtain ⟨fs, hr, hrun, hended, hW, hsame⟩ := X2.leave (v := some (.double x0)) (fun h => by rw [Bd.returns] at h; cases h)
  refine ⟨_, _, pre0 _ ?_, hrun, hended, _, _, rfl, ?_, ⟨_, rfl⟩, hW, hsame.mono (by decide) (by decide)⟩
  · show Steps p.tables e below (s₁.setTop (mkF m 0 #[.val (.ref t0), .val (.int (0 : Int32))] [])) _
    refine XS.aloadN X0.here hx rfl (hb hby d5_0) rfl rfl ?_
    show Steps p.tables e below (s₁.setTop (mkF m 1 #[.val (.ref t0), .val (.int (0 : Int32))] [(.ref t0)])) _
    refine st1 _ ?_
    show Steps p.tables e below (T1.setTop (mkF m 4 #[.val (.ref t0), .val (.int (0 : Int32))] [(.ref s0)])) _
    refine XS.ifnonnullYes X1.here hx rfl (pc0 := 4) (pc' := 11) rfl (hb hby d5_4) rfl (by decide) (by decide) ?_
    show Steps p.tables e below (T1.setTop (mkF m 11 #[.val (.ref t0), .val (.int (0 : Int32))] [])) _
    refine XS.aloadN X1.here hx rfl (hb hby d5_11) rfl rfl ?_
    show Steps p.tables e below (T1.setTop (mkF m 12 #[.val (.ref t0), .val (.int (0 : Int32))] [(.ref t0)])) _
    refine st2 _ ?_
    show Steps p.tables e below (T2.setTop (mkF m 15 #[.val (.ref t0), .val (.int (0 : Int32))] [(.ref s0)])) _
    refine XS.iloadN X2.here hx rfl (hb hby d5_15) rfl ?_
    show Steps p.tables e below (T2.setTop (mkF m 16 #[.val (.ref t0), .val (.int (0 : Int32))] [(.int (0 : Int32)), (.ref s0)])) _
    refine X2.daload hx (j := (0 : Int32)) (v := (.double x0)) (by rw [e2]; exact Arq3.1) (State.isArrayOf_alike hZ.alike Arq3.2.1) Arq3.2.2 (inb_of Sq3 ⟨by decide, by decide⟩) (Has.at Hq3 (inb_of Sq3 ⟨by decide, by decide⟩) rfl) (g := (mkF m 16 #[.val (.ref t0), .val (.int (0 : Int32))] [(.int (0 : Int32)), (.ref s0)])) rfl rfl (hb hby d5_16) _ ?_
    show Steps p.tables e below (T2.setTop (mkF m 17 #[.val (.ref t0), .val (.int (0 : Int32))] [(.double x0)])) _
    exact retOut X2 hx Bd.returns rfl (Or.inr (Or.inr (Or.inl ⟨rfl, rfl, _, rfl⟩))) (hb hby d5_17) hr
  · show Q_rm5_0 Z t0 s0 k0 x0 h0 n0 _ T2.heap _
    rw [e2]
    exact ⟨rfl, N0, rfl⟩
theorem d5_7 : decode prog_60_method_4_code 7 = .ok (.dconst 0, 1) := by decide +kernel
theorem d5_8 : decode prog_60_method_4_code 8 = .ok (.goto 9, 3) := by decide +kernel
theorem ef_5_RI (m : MethodId) (x0 : Addr) (x1 : Int32) : entryFrame m #[(.ref x0), (.int x1)] 2 = mkF m 0 #[.val (.ref x0), .val (.int x1)] [] := by first | (simp [entryFrame, mkF, argsToLocals, Value.category]; done) | rfl
def Q_rm5_n (Z : State) (t0 : Addr) (j0 : Int32) (h0 : Heap) (n0 : Nat) (v : Option Value) (h : Heap) (L : List Loc) : Prop := v = some (.double (0 : UInt64)) ∧ Fr n0 L ∧ h = h0
set_option maxRecDepth 65536 in
set_option maxHeartbeats 40000000 in
theorem rm5_n (l : Launch) (Z : State) (a0 : Array Value) (hw : ∀ d ∈ tables_1, d.before a0 Z = true) (ws : List Jvm.Cond) (t0 : Addr) (j0 : Int32) (h0 : Heap) (n0 : Nat) (Z0 : n0 ≤ h0.size) (F_slopeLow_t0 : Fld Z h0 t0 "com/example/odds_on_counters/oddsoncounters/numeric/Jet" "slopeLow" "[D" .null) :
    MetFree l (⟨"com/example/odds_on_counters/oddsoncounters/numeric/Jet", "slopeLow", "(I)D"⟩ : MethodName) (head1 (Jvm.Cond.code (⟨"com/example/odds_on_counters/oddsoncounters/numeric/Jet", "slopeLow", "(I)D"⟩ : MethodName) prog_60_method_4_code 2 (some .double) :: ws) ({ frames := 0, cells := 0, slots := 0, locals := 0 } : Room)) (fun a U => a = #[(.ref t0), (.int j0)] ∧ Z.Warmed39 U.vm ∧ U.heap = h0) (fun _ _ _ _ _ => True) (fun _ U o U' => ∃ v L, o = .returned v ∧ Q_rm5_n Z t0 j0 h0 n0 v U'.heap L ∧ FrameEnd U o U' L ({ frames := 0, cells := 0, slots := 0, locals := 0 } : Room).cells ({ frames := 0, cells := 0, slots := 0, locals := 0 } : Room).slots) := by
  refine MetFree.of_bodySF (plainFor_of_name pn_com_example_odds_on_counters_oddsoncounters_numeric_Jet) hisR ?_
  intro p e s m args below meth c s₁ Bd hml0 hP hK
  obtain ⟨rfl, hZ, hh⟩ := hP
  have hx := Bd.exec
  have hby := Bd.bytes
  have hml : c.maxLocals = 2 := hml0
  have hown : s.vm.findClass "com/example/odds_on_counters/oddsoncounters/numeric/Jet" = some m.cls := findClass_of_methodNamed Bd.named
  have hnm := (name_of_methodNamed Bd.named Bd.method).1
  have X0 : Stand p l e ({ frames := 0, cells := 0, slots := 0, locals := 0 } : Room) s m #[(.ref t0), (.int j0)] below meth c s₁ [] 0 0 := Stand.of_body Bd
  have e0 : s₁.heap = h0 := by rw [← hh, Bd.state]; rfl
  have N0 := Fr.nil n0
  have pre0 : ∀ t, Steps p.tables e below (s₁.setTop (mkF m 0 #[.val (.ref t0), .val (.int j0)] [])) t → Steps p.tables e below (s₁.setTop (entryFrame m #[(.ref t0), (.int j0)] 2)) t := fun t k => castTop (ef_5_RI m t0 j0) k
  obtain ⟨T1, X1, e1, st1⟩ := getF X0 hx hZ hown (host := "") (Or.inl (hw _ (List.mem_of_getElem? (i := 15) rfl))) Via.refl e0 F_slopeLow_t0 (g := (mkF m 1 #[.val (.ref t0), .val (.int j0)] [(.ref t0)])) rfl rfl (hb hby d5_1)
  obtain ⟨fs, hr, hrun, hended, hW, hsame⟩ := X1.leave (v := some (.double (0 : UInt64))) (fun h => by rw [Bd.returns] at h; cases h)
  refine ⟨_, _, pre0 _ ?_, hrun, hended, _, _, rfl, ?_, ⟨_, rfl⟩, hW, hsame.mono (by decide) (by decide)⟩
  · show Steps p.tables e below (s₁.setTop (mkF m 0 #[.val (.ref t0), .val (.int j0)] [])) _
    refine XS.aloadN X0.here hx rfl (hb hby d5_0) rfl rfl ?_
    show Steps p.tables e below (s₁.setTop (mkF m 1 #[.val (.ref t0), .val (.int j0)] [(.ref t0)])) _
    refine st1 _ ?_
    show Steps p.tables e below (T1.setTop (mkF m 4 #[.val (.ref t0), .val (.int j0)] [.null])) _
    refine XS.ifnonnullNo X1.here hx rfl (hb hby d5_4) rfl ?_
    show Steps p.tables e below (T1.setTop (mkF m 7 #[.val (.ref t0), .val (.int j0)] [])) _
    refine XS.dconst0 X1.here hx rfl (hb hby d5_7) (v := (0 : UInt64)) rfl ?_
    show Steps p.tables e below (T1.setTop (mkF m 8 #[.val (.ref t0), .val (.int j0)] [(.double (0 : UInt64))])) _
    refine XS.goto X1.here hx rfl (pc0 := 8) (pc' := 17) rfl (hb hby d5_8) (by decide) (by decide) ?_
    show Steps p.tables e below (T1.setTop (mkF m 17 #[.val (.ref t0), .val (.int j0)] [(.double (0 : UInt64))])) _
    exact retOut X1 hx Bd.returns rfl (Or.inr (Or.inr (Or.inl ⟨rfl, rfl, _, rfl⟩))) (hb hby d5_17) hr
  · show Q_rm5_n Z t0 j0 h0 n0 _ T1.heap _
    rw [e1]
    exact ⟨rfl, N0, rfl⟩
theorem d6_0 : decode prog_60_method_5_code 0 = .ok (.aload_n 0, 1) := by decide +kernel
theorem d6_1 : decode prog_60_method_5_code 1 = .ok (.getfield 20, 3) := by decide +kernel
theorem d6_4 : decode prog_60_method_5_code 4 = .ok (.ifnonnull 7, 3) := by decide +kernel
theorem d6_11 : decode prog_60_method_5_code 11 = .ok (.aload_n 0, 1) := by decide +kernel
theorem d6_12 : decode prog_60_method_5_code 12 = .ok (.getfield 20, 3) := by decide +kernel
theorem d6_15 : decode prog_60_method_5_code 15 = .ok (.iload_n 1, 1) := by decide +kernel
theorem d6_16 : decode prog_60_method_5_code 16 = .ok (.daload, 1) := by decide +kernel
theorem d6_17 : decode prog_60_method_5_code 17 = .ok (.dreturn, 1) := by decide +kernel
theorem ef_6_Rl_0___Int32_ (m : MethodId) (x0 : Addr) : entryFrame m #[(.ref x0), (.int (0 : Int32))] 2 = mkF m 0 #[.val (.ref x0), .val (.int (0 : Int32))] [] := by first | (simp [entryFrame, mkF, argsToLocals, Value.category]; done) | rfl
def Q_rm6_0 (Z : State) (t0 : Addr) (s0 : Addr) (k0 : ClassId) (x0 : UInt64) (h0 : Heap) (n0 : Nat) (v : Option Value) (h : Heap) (L : List Loc) : Prop := v = some (.double x0) ∧ Fr n0 L ∧ h = h0
set_option maxRecDepth 65536 in
set_option maxHeartbeats 40000000 in
theorem rm6_0 (l : Launch) (Z : State) (a0 : Array Value) (hw : ∀ d ∈ tables_1, d.before a0 Z = true) (ws : List Jvm.Cond) (t0 : Addr) (s0 : Addr) (k0 : ClassId) (x0 : UInt64) (h0 : Heap) (n0 : Nat) (Z0 : n0 ≤ h0.size) (F_slopeHigh_t0 : Fld Z h0 t0 "com/example/odds_on_counters/oddsoncounters/numeric/Jet" "slopeHigh" "[D" (.ref s0)) (V_s0 : Arv Z h0 s0 k0 .double (1 : Int32) [(.double x0)] (.double (0 : UInt64))) :
    MetFree l (⟨"com/example/odds_on_counters/oddsoncounters/numeric/Jet", "slopeHigh", "(I)D"⟩ : MethodName) (head1 (Jvm.Cond.code (⟨"com/example/odds_on_counters/oddsoncounters/numeric/Jet", "slopeHigh", "(I)D"⟩ : MethodName) prog_60_method_5_code 2 (some .double) :: ws) ({ frames := 0, cells := 0, slots := 0, locals := 0 } : Room)) (fun a U => a = #[(.ref t0), (.int (0 : Int32))] ∧ Z.Warmed39 U.vm ∧ U.heap = h0) (fun _ _ _ _ _ => True) (fun _ U o U' => ∃ v L, o = .returned v ∧ Q_rm6_0 Z t0 s0 k0 x0 h0 n0 v U'.heap L ∧ FrameEnd U o U' L ({ frames := 0, cells := 0, slots := 0, locals := 0 } : Room).cells ({ frames := 0, cells := 0, slots := 0, locals := 0 } : Room).slots) := by
  refine MetFree.of_bodySF (plainFor_of_name pn_com_example_odds_on_counters_oddsoncounters_numeric_Jet) hisR ?_
  intro p e s m args below meth c s₁ Bd hml0 hP hK
  obtain ⟨rfl, hZ, hh⟩ := hP
  have hx := Bd.exec
  have hby := Bd.bytes
  have hml : c.maxLocals = 2 := hml0
  have hown : s.vm.findClass "com/example/odds_on_counters/oddsoncounters/numeric/Jet" = some m.cls := findClass_of_methodNamed Bd.named
  have hnm := (name_of_methodNamed Bd.named Bd.method).1
  have X0 : Stand p l e ({ frames := 0, cells := 0, slots := 0, locals := 0 } : Room) s m #[(.ref t0), (.int (0 : Int32))] below meth c s₁ [] 0 0 := Stand.of_body Bd
  have e0 : s₁.heap = h0 := by rw [← hh, Bd.state]; rfl
  have N0 := Fr.nil n0
  have pre0 : ∀ t, Steps p.tables e below (s₁.setTop (mkF m 0 #[.val (.ref t0), .val (.int (0 : Int32))] [])) t → Steps p.tables e below (s₁.setTop (entryFrame m #[(.ref t0), (.int (0 : Int32))] 2)) t := fun t k => castTop (ef_6_Rl_0___Int32_ m t0) k
  obtain ⟨T1, X1, e1, st1⟩ := getF X0 hx hZ hown (host := "") (Or.inl (hw _ (List.mem_of_getElem? (i := 17) rfl))) Via.refl e0 F_slopeHigh_t0 (g := (mkF m 1 #[.val (.ref t0), .val (.int (0 : Int32))] [(.ref t0)])) rfl rfl (hb hby d6_1)
  obtain ⟨T2, X2, e2, st2⟩ := getF X1 hx hZ hown (host := "") (Or.inl (hw _ (List.mem_of_getElem? (i := 17) rfl))) Via.refl e1 F_slopeHigh_t0 (g := (mkF m 12 #[.val (.ref t0), .val (.int (0 : Int32))] [(.ref t0)])) rfl rfl (hb hby d6_12)
  obtain ⟨cq3, Arq3, -, Sq3, -, Hq3, -⟩ := V_s0
  obtain ⟨fs, hr, hrun, hended, hW, hsame⟩ := X2.leave (v := some (.double x0)) (fun h => by rw [Bd.returns] at h; cases h)
  refine ⟨_, _, pre0 _ ?_, hrun, hended, _, _, rfl, ?_, ⟨_, rfl⟩, hW, hsame.mono (by decide) (by decide)⟩
  · show Steps p.tables e below (s₁.setTop (mkF m 0 #[.val (.ref t0), .val (.int (0 : Int32))] [])) _
    refine XS.aloadN X0.here hx rfl (hb hby d6_0) rfl rfl ?_
    show Steps p.tables e below (s₁.setTop (mkF m 1 #[.val (.ref t0), .val (.int (0 : Int32))] [(.ref t0)])) _
    refine st1 _ ?_
    show Steps p.tables e below (T1.setTop (mkF m 4 #[.val (.ref t0), .val (.int (0 : Int32))] [(.ref s0)])) _
    refine XS.ifnonnullYes X1.here hx rfl (pc0 := 4) (pc' := 11) rfl (hb hby d6_4) rfl (by decide) (by decide) ?_
    show Steps p.tables e below (T1.setTop (mkF m 11 #[.val (.ref t0), .val (.int (0 : Int32))] [])) _
    refine XS.aloadN X1.here hx rfl (hb hby d6_11) rfl rfl ?_
    show Steps p.tables e below (T1.setTop (mkF m 12 #[.val (.ref t0), .val (.int (0 : Int32))] [(.ref t0)])) _
    refine st2 _ ?_
    show Steps p.tables e below (T2.setTop (mkF m 15 #[.val (.ref t0), .val (.int (0 : Int32))] [(.ref s0)])) _
    refine XS.iloadN X2.here hx rfl (hb hby d6_15) rfl ?_
    show Steps p.tables e below (T2.setTop (mkF m 16 #[.val (.ref t0), .val (.int (0 : Int32))] [(.int (0 : Int32)), (.ref s0)])) _
    refine X2.daload hx (j := (0 : Int32)) (v := (.double x0)) (by rw [e2]; exact Arq3.1) (State.isArrayOf_alike hZ.alike Arq3.2.1) Arq3.2.2 (inb_of Sq3 ⟨by decide, by decide⟩) (Has.at Hq3 (inb_of Sq3 ⟨by decide, by decide⟩) rfl) (g := (mkF m 16 #[.val (.ref t0), .val (.int (0 : Int32))] [(.int (0 : Int32)), (.ref s0)])) rfl rfl (hb hby d6_16) _ ?_
    show Steps p.tables e below (T2.setTop (mkF m 17 #[.val (.ref t0), .val (.int (0 : Int32))] [(.double x0)])) _
    exact retOut X2 hx Bd.returns rfl (Or.inr (Or.inr (Or.inl ⟨rfl, rfl, _, rfl⟩))) (hb hby d6_17) hr
  · show Q_rm6_0 Z t0 s0 k0 x0 h0 n0 _ T2.heap _
    rw [e2]
    exact ⟨rfl, N0, rfl⟩
theorem d6_7 : decode prog_60_method_5_code 7 = .ok (.dconst 0, 1) := by decide +kernel
theorem d6_8 : decode prog_60_method_5_code 8 = .ok (.goto 9, 3) := by decide +kernel
theorem ef_6_RI (m : MethodId) (x0 : Addr) (x1 : Int32) : entryFrame m #[(.ref x0), (.int x1)] 2 = mkF m 0 #[.val (.ref x0), .val (.int x1)] [] := by first | (simp [entryFrame, mkF, argsToLocals, Value.category]; done) | rfl
def Q_rm6_n (Z : State) (t0 : Addr) (j0 : Int32) (h0 : Heap) (n0 : Nat) (v : Option Value) (h : Heap) (L : List Loc) : Prop := v = some (.double (0 : UInt64)) ∧ Fr n0 L ∧ h = h0
set_option maxRecDepth 65536 in
set_option maxHeartbeats 40000000 in
theorem rm6_n (l : Launch) (Z : State) (a0 : Array Value) (hw : ∀ d ∈ tables_1, d.before a0 Z = true) (ws : List Jvm.Cond) (t0 : Addr) (j0 : Int32) (h0 : Heap) (n0 : Nat) (Z0 : n0 ≤ h0.size) (F_slopeHigh_t0 : Fld Z h0 t0 "com/example/odds_on_counters/oddsoncounters/numeric/Jet" "slopeHigh" "[D" .null) :
    MetFree l (⟨"com/example/odds_on_counters/oddsoncounters/numeric/Jet", "slopeHigh", "(I)D"⟩ : MethodName) (head1 (Jvm.Cond.code (⟨"com/example/odds_on_counters/oddsoncounters/numeric/Jet", "slopeHigh", "(I)D"⟩ : MethodName) prog_60_method_5_code 2 (some .double) :: ws) ({ frames := 0, cells := 0, slots := 0, locals := 0 } : Room)) (fun a U => a = #[(.ref t0), (.int j0)] ∧ Z.Warmed39 U.vm ∧ U.heap = h0) (fun _ _ _ _ _ => True) (fun _ U o U' => ∃ v L, o = .returned v ∧ Q_rm6_n Z t0 j0 h0 n0 v U'.heap L ∧ FrameEnd U o U' L ({ frames := 0, cells := 0, slots := 0, locals := 0 } : Room).cells ({ frames := 0, cells := 0, slots := 0, locals := 0 } : Room).slots) := by
  refine MetFree.of_bodySF (plainFor_of_name pn_com_example_odds_on_counters_oddsoncounters_numeric_Jet) hisR ?_
  intro p e s m args below meth c s₁ Bd hml0 hP hK
  obtain ⟨rfl, hZ, hh⟩ := hP
  have hx := Bd.exec
  have hby := Bd.bytes
  have hml : c.maxLocals = 2 := hml0
  have hown : s.vm.findClass "com/example/odds_on_counters/oddsoncounters/numeric/Jet" = some m.cls := findClass_of_methodNamed Bd.named
  have hnm := (name_of_methodNamed Bd.named Bd.method).1
  have X0 : Stand p l e ({ frames := 0, cells := 0, slots := 0, locals := 0 } : Room) s m #[(.ref t0), (.int j0)] below meth c s₁ [] 0 0 := Stand.of_body Bd
  have e0 : s₁.heap = h0 := by rw [← hh, Bd.state]; rfl
  have N0 := Fr.nil n0
  have pre0 : ∀ t, Steps p.tables e below (s₁.setTop (mkF m 0 #[.val (.ref t0), .val (.int j0)] [])) t → Steps p.tables e below (s₁.setTop (entryFrame m #[(.ref t0), (.int j0)] 2)) t := fun t k => castTop (ef_6_RI m t0 j0) k
  obtain ⟨T1, X1, e1, st1⟩ := getF X0 hx hZ hown (host := "") (Or.inl (hw _ (List.mem_of_getElem? (i := 17) rfl))) Via.refl e0 F_slopeHigh_t0 (g := (mkF m 1 #[.val (.ref t0), .val (.int j0)] [(.ref t0)])) rfl rfl (hb hby d6_1)
  obtain ⟨fs, hr, hrun, hended, hW, hsame⟩ := X1.leave (v := some (.double (0 : UInt64))) (fun h => by rw [Bd.returns] at h; cases h)
  refine ⟨_, _, pre0 _ ?_, hrun, hended, _, _, rfl, ?_, ⟨_, rfl⟩, hW, hsame.mono (by decide) (by decide)⟩
  · show Steps p.tables e below (s₁.setTop (mkF m 0 #[.val (.ref t0), .val (.int j0)] [])) _
    refine XS.aloadN X0.here hx rfl (hb hby d6_0) rfl rfl ?_
    show Steps p.tables e below (s₁.setTop (mkF m 1 #[.val (.ref t0), .val (.int j0)] [(.ref t0)])) _
    refine st1 _ ?_
    show Steps p.tables e below (T1.setTop (mkF m 4 #[.val (.ref t0), .val (.int j0)] [.null])) _
    refine XS.ifnonnullNo X1.here hx rfl (hb hby d6_4) rfl ?_
    show Steps p.tables e below (T1.setTop (mkF m 7 #[.val (.ref t0), .val (.int j0)] [])) _
    refine XS.dconst0 X1.here hx rfl (hb hby d6_7) (v := (0 : UInt64)) rfl ?_
    show Steps p.tables e below (T1.setTop (mkF m 8 #[.val (.ref t0), .val (.int j0)] [(.double (0 : UInt64))])) _
    refine XS.goto X1.here hx rfl (pc0 := 8) (pc' := 17) rfl (hb hby d6_8) (by decide) (by decide) ?_
    show Steps p.tables e below (T1.setTop (mkF m 17 #[.val (.ref t0), .val (.int j0)] [(.double (0 : UInt64))])) _
    exact retOut X1 hx Bd.returns rfl (Or.inr (Or.inr (Or.inl ⟨rfl, rfl, _, rfl⟩))) (hb hby d6_17) hr
  · show Q_rm6_n Z t0 j0 h0 n0 _ T1.heap _
    rw [e1]
    exact ⟨rfl, N0, rfl⟩
theorem pd_0 : parseMethodDescriptor "(DD[D[D)V" = some ⟨[.double, .double, (.array .double), (.array .double)], none⟩ := by decide +kernel
theorem pd_1 : parseMethodDescriptor "()Z" = some ⟨[], some .boolean⟩ := by decide +kernel
theorem pd_2 : parseMethodDescriptor "()[D" = some ⟨[], some (.array .double)⟩ := by decide +kernel
theorem pd_3 : parseMethodDescriptor "(I)D" = some ⟨[.int], some .double⟩ := by decide +kernel
theorem pn_com_example_odds_on_counters_oddsoncounters_numeric_JetIsConstantPinLaw : plainName "com/example/odds_on_counters/oddsoncounters/numeric/JetIsConstantPinLaw" = true := by first | (simp [plainName, overriddenIn]; done) | decide +kernel
theorem ef_0_IIIII (m : MethodId) (x0 : Int32) (x1 : Int32) (x2 : Int32) (x3 : Int32) (x4 : Int32) : entryFrame m #[(.int x0), (.int x1), (.int x2), (.int x3), (.int x4)] maxLocals = mkF m 0 #[.val (.int x0), .val (.int x1), .val (.int x2), .val (.int x3), .val (.int x4), .unset, .unset, .unset, .unset, .unset, .unset, .unset, .unset, .unset, .unset, .unset, .unset, .unset] [] := by first | (simp [entryFrame, mkF, argsToLocals, Value.category, maxLocals]; done) | rfl
def Q0 (n0 : Nat) (v : Option Value) (h : Heap) (L : List Loc) : Prop := v = some (.int (1 : Int32)) ∧ Fr n0 L
set_option maxRecDepth 65536 in
set_option maxHeartbeats 40000000 in
theorem rm0_n (l : Launch) (Z : State) (a0 : Array Value) (hw : ∀ d ∈ tables_1, d.before a0 Z = true) (ws : List Jvm.Cond) (p0 : Int32) (p1 : Int32) (p2 : Int32) (p3 : Int32) (p4 : Int32) (h0 : Heap) (n0 : Nat) (Z0 : n0 ≤ h0.size) (hc3 : (p0 &&& (1 : Int32)) = (0 : Int32)) (nn28 : Jvm.Free.Fl.NoNaN64 (FP.dadd (FP.i2d (p3 &&& (2147483647 : Int32))) (FP.i2d (p4 &&& (65535 : Int32))))) (hd151 : (cmpValue (FP.dcmp (0 : UInt64) (0 : UInt64)) .l) = (0 : Int32)) (hd158 : (cmpValue (FP.dcmp (0 : UInt64) (0 : UInt64)) .l) = (0 : Int32)) :
    MetFree l x (head1 (Jvm.Cond.code x code maxLocals ret :: ws) room_1) (fun a U => a = #[(.int p0), (.int p1), (.int p2), (.int p3), (.int p4)] ∧ Z.Warmed39 U.vm ∧ U.heap = h0) (fun _ _ _ _ _ => True) (fun _ U o U' => ∃ v L, o = .returned v ∧ Q0 n0 v U'.heap L ∧ FrameEnd U o U' L room_1.cells room_1.slots) := by
  refine MetFree.of_bodySF (plainFor_of_name pn_com_example_odds_on_counters_oddsoncounters_numeric_JetIsConstantPinLaw) hisR ?_
  intro p e s m args below meth c s₁ Bd hml0 hP hK
  obtain ⟨rfl, hZ, hh⟩ := hP
  have hx := Bd.exec
  have hby := Bd.bytes
  have hml : c.maxLocals = 18 := hml0
  have hown : s.vm.findClass "com/example/odds_on_counters/oddsoncounters/numeric/JetIsConstantPinLaw" = some m.cls := findClass_of_methodNamed Bd.named
  have hnm := (name_of_methodNamed Bd.named Bd.method).1
  have X0 : Stand p l e room_1 s m #[(.int p0), (.int p1), (.int p2), (.int p3), (.int p4)] below meth c s₁ [] 0 0 := Stand.of_body Bd
  have e0 : s₁.heap = h0 := by rw [← hh, Bd.state]; rfl
  have N0 := Fr.nil n0
  have pre0 : ∀ t, Steps p.tables e below (s₁.setTop (mkF m 0 #[.val (.int p0), .val (.int p1), .val (.int p2), .val (.int p3), .val (.int p4), .unset, .unset, .unset, .unset, .unset, .unset, .unset, .unset, .unset, .unset, .unset, .unset, .unset] [])) t → Steps p.tables e below (s₁.setTop (entryFrame m #[(.int p0), (.int p1), (.int p2), (.int p3), (.int p4)] maxLocals)) t := fun t k => castTop (ef_0_IIIII m p0 p1 p2 p3 p4) k
  obtain ⟨T1, h1, X1, e1, E1, A1, D1, -, st1⟩ := newO X0 hx hZ hown (hw _ (List.mem_of_getElem? (i := 2) rfl)) (hw _ (List.mem_of_getElem? (i := 3) rfl)) (hw _ (List.mem_of_getElem? (i := 4) rfl)) e0 (g := (mkF m 66 #[.val (.int p0), .val (.int p1), .val (.int p2), .val (.int p3), .val (.int p4), .val (.int (0 : Int32)), .val (.double (FP.i2d (p3 &&& (2147483647 : Int32)))), .second, .val (.double (FP.dadd (FP.i2d (p3 &&& (2147483647 : Int32))) (FP.i2d (p4 &&& (65535 : Int32))))), .second, .val .null, .val .null, .unset, .unset, .unset, .unset, .unset, .unset] [])) rfl (hb hby at_66) (by decide) (by decide)
  obtain ⟨b1, g1⟩ : ∃ z, z = h0.size := ⟨_, rfl⟩
  rw [← g1] at A1 D1 st1
  have g_b1 : n0 ≤ b1 := Nat.le_trans Z0 (Nat.le_of_eq g1.symm)
  have sz_b1 : h0.size ≤ b1 := Nat.le_trans (Keep.refl h0 []).1 (Nat.le_of_eq g1.symm)
  have K1 : Keep h0 h1 [] := (Keep.refl h0 []).ext E1
  have Zs1 := Nat.le_trans Z0 E1.1
  have F1_low : Fld Z h1 b1 "com/example/odds_on_counters/oddsoncounters/numeric/Jet" "low" "D" (.double (0 : UInt64)) := D1 (Or.inr (hw _ (List.mem_of_getElem? (i := 12) rfl))) (ty := .double) (by decide)
  have F1_high : Fld Z h1 b1 "com/example/odds_on_counters/oddsoncounters/numeric/Jet" "high" "D" (.double (0 : UInt64)) := D1 (Or.inr (hw _ (List.mem_of_getElem? (i := 14) rfl))) (ty := .double) (by decide)
  have F1_slopeLow : Fld Z h1 b1 "com/example/odds_on_counters/oddsoncounters/numeric/Jet" "slopeLow" "[D" .null := D1 (Or.inr (hw _ (List.mem_of_getElem? (i := 16) rfl))) (ty := (.array .double)) (by decide)
  have F1_slopeHigh : Fld Z h1 b1 "com/example/odds_on_counters/oddsoncounters/numeric/Jet" "slopeHigh" "[D" .null := D1 (Or.inr (hw _ (List.mem_of_getElem? (i := 18) rfl))) (ty := (.array .double)) (by decide)
  obtain ⟨_, _, ⟨T2, L2, k2, n2⟩, -, X2, ⟨Lc2, hQ2, l2, y2, z2⟩, st2⟩ := X1.specialBack hx (y := (⟨"com/example/odds_on_counters/oddsoncounters/numeric/Jet", "<init>", "(DD[D[D)V"⟩ : MethodName)) rfl hown (mvT hZ (hw _ (List.mem_of_getElem? (i := 5) rfl))) (mvT hZ (hw _ (List.mem_of_getElem? (i := 6) rfl))) (mvT hZ (hw _ (List.mem_of_getElem? (i := 7) rfl))) (by decide) (backOf (W := 1) (rm1n l Z a0 hw [] b1 (FP.i2d (p3 &&& (2147483647 : Int32))) (FP.dadd (FP.i2d (p3 &&& (2147483647 : Int32))) (FP.i2d (p4 &&& (65535 : Int32)))) h1 n0 Zs1 A1 F1_low F1_high F1_slopeLow F1_slopeHigh g_b1) hZ (hw _ (List.mem_of_getElem? (i := 7) rfl)) (hw _ (List.mem_of_getElem? (i := 4) rfl)) (by decide) (by decide)) (g := (mkF m 78 #[.val (.int p0), .val (.int p1), .val (.int p2), .val (.int p3), .val (.int p4), .val (.int (0 : Int32)), .val (.double (FP.i2d (p3 &&& (2147483647 : Int32)))), .second, .val (.double (FP.dadd (FP.i2d (p3 &&& (2147483647 : Int32))) (FP.i2d (p4 &&& (65535 : Int32))))), .second, .val .null, .val .null, .unset, .unset, .unset, .unset, .unset, .unset] [.null, .null, (.double (FP.dadd (FP.i2d (p3 &&& (2147483647 : Int32))) (FP.i2d (p4 &&& (65535 : Int32))))), (.double (FP.i2d (p3 &&& (2147483647 : Int32)))), (.ref b1), (.ref b1)])) rfl (by rw [hml]; rfl) (Steps.refl _) (a := b1) (argsL := [(.double (FP.i2d (p3 &&& (2147483647 : Int32)))), (.double (FP.dadd (FP.i2d (p3 &&& (2147483647 : Int32))) (FP.i2d (p4 &&& (65535 : Int32))))), .null, .null]) (rest := [(.ref b1)]) (lenOf pd_0 rfl) rfl (by show 2 * 0 + _ ≤ _; exact Nat.le_of_eq rfl) (hb hby at_78) (fun _ _ => ⟨rfl, e1, (by decide : 1 + 0 ≤ _), (by decide : 4 + 0 ≤ _)⟩)
  dsimp only [Pt.U, Pt.locs, Pt.cells, Pt.slots] at X2 l2 y2 z2 st2 hQ2
  subst l2 y2 z2
  obtain ⟨rfl, N2q, K2q, f3, f4, f5⟩ := hQ2
  have N2 := Fr.app N0 N2q
  have f6 := A1.keep K2q
  have K2 : Keep h0 T2.heap [] := K1.trans K2q (own_allS (Or.inr sz_b1) own_all0)
  have Zs2 := Nat.le_trans Zs1 K2q.1
  obtain ⟨cq7, kq7, q7a, q7b, q7c⟩ := isOf hZ rfl f3
  obtain ⟨_, _, ⟨T7, L7, k7, n7⟩, -, X7, ⟨Lc7, hQ7, l7, y7, z7⟩, st7⟩ := X2.virtualBack hx (y := (⟨"com/example/odds_on_counters/oddsoncounters/numeric/Jet", "isConstant", "()Z"⟩ : MethodName)) (z := (⟨"com/example/odds_on_counters/oddsoncounters/numeric/Jet", "isConstant", "()Z"⟩ : MethodName)) hown (mvT hZ (hw _ (List.mem_of_getElem? (i := 19) rfl))) (mvT hZ (hw _ (List.mem_of_getElem? (i := 20) rfl))) (notFace_of_selects (args := #[]) (mvT hZ (hw _ (List.mem_of_getElem? (i := 22) rfl)))) (mvT hZ (hw _ (List.mem_of_getElem? (i := 22) rfl))) (mvT hZ (hw _ (List.mem_of_getElem? (i := 21) rfl))) (by decide) (backOf (W := 0) (rm3_n l Z a0 hw [] b1 T2.heap n0 Zs2 f4) hZ (hw _ (List.mem_of_getElem? (i := 23) rfl)) (hw _ (List.mem_of_getElem? (i := 4) rfl)) (by decide) (by decide)) q7a q7c (g := (mkF m 85 #[.val (.int p0), .val (.int p1), .val (.int p2), .val (.int p3), .val (.int p4), .val (.int (0 : Int32)), .val (.double (FP.i2d (p3 &&& (2147483647 : Int32)))), .second, .val (.double (FP.dadd (FP.i2d (p3 &&& (2147483647 : Int32))) (FP.i2d (p4 &&& (65535 : Int32))))), .second, .val .null, .val .null, .val (.ref b1), .unset, .unset, .unset, .unset, .unset] [(.ref b1)])) rfl (by rw [hml]; rfl) (Steps.refl _) (argsL := []) (rest := []) (lenOf pd_1 rfl) rfl (by show 2 * 0 + _ ≤ _; exact Nat.le_of_eq rfl) (hb hby at_85) (fun _ _ => ⟨rfl, rfl, (by decide : 1 + 0 ≤ _), (by decide : 4 + 0 ≤ _)⟩)
  dsimp only [Pt.U, Pt.locs, Pt.cells, Pt.slots] at X7 l7 y7 z7 st7 hQ7
  subst l7 y7 z7
  obtain ⟨rfl, N7q, eh7⟩ := hQ7
  have N7 := Fr.app N2 N7q
  have e7 : T7.heap = T2.heap := eh7
  obtain ⟨cq8, kq8, q8a, q8b, q8c⟩ := isOf hZ e7 f3
  obtain ⟨_, _, ⟨T8, L8, k8, n8⟩, -, X8, ⟨Lc8, hQ8, l8, y8, z8⟩, st8⟩ := X7.virtualBack hx (y := (⟨"com/example/odds_on_counters/oddsoncounters/numeric/Jet", "slopeLows", "()[D"⟩ : MethodName)) (z := (⟨"com/example/odds_on_counters/oddsoncounters/numeric/Jet", "slopeLows", "()[D"⟩ : MethodName)) hown (mvT hZ (hw _ (List.mem_of_getElem? (i := 24) rfl))) (mvT hZ (hw _ (List.mem_of_getElem? (i := 25) rfl))) (notFace_of_selects (args := #[]) (mvT hZ (hw _ (List.mem_of_getElem? (i := 27) rfl)))) (mvT hZ (hw _ (List.mem_of_getElem? (i := 27) rfl))) (mvT hZ (hw _ (List.mem_of_getElem? (i := 26) rfl))) (by decide) (backOf (W := 1) (rm4_n l Z a0 hw [] b1 T2.heap n0 Zs2 f4) hZ (hw _ (List.mem_of_getElem? (i := 28) rfl)) (hw _ (List.mem_of_getElem? (i := 4) rfl)) (by decide) (by decide)) q8a q8c (g := (mkF m 111 #[.val (.int p0), .val (.int p1), .val (.int p2), .val (.int p3), .val (.int p4), .val (.int (0 : Int32)), .val (.double (FP.i2d (p3 &&& (2147483647 : Int32)))), .second, .val (.double (FP.dadd (FP.i2d (p3 &&& (2147483647 : Int32))) (FP.i2d (p4 &&& (65535 : Int32))))), .second, .val .null, .val .null, .val (.ref b1), .val (.int (1 : Int32)), .unset, .unset, .unset, .unset] [(.ref b1), (.int (1 : Int32))])) rfl (by rw [hml]; rfl) (Steps.refl _) (argsL := []) (rest := [(.int (1 : Int32))]) (lenOf pd_2 rfl) rfl (by show 2 * 0 + _ ≤ _; exact Nat.le_of_eq rfl) (hb hby at_111) (fun _ _ => ⟨rfl, e7, (by decide : 1 + 0 ≤ _), (by decide : 4 + 0 ≤ _)⟩)
  dsimp only [Pt.U, Pt.locs, Pt.cells, Pt.slots] at X8 l8 y8 z8 st8 hQ8
  subst l8 y8 z8
  obtain ⟨rfl, N8q, eh8⟩ := hQ8
  have N8 := Fr.app N7 N8q
  have e8 : T8.heap = T2.heap := eh8
  obtain ⟨cq9, kq9, q9a, q9b, q9c⟩ := isOf hZ e8 f3
  obtain ⟨_, _, ⟨T9, L9, k9, n9⟩, -, X9, ⟨Lc9, hQ9, l9, y9, z9⟩, st9⟩ := X8.virtualBack hx (y := (⟨"com/example/odds_on_counters/oddsoncounters/numeric/Jet", "slopeLow", "(I)D"⟩ : MethodName)) (z := (⟨"com/example/odds_on_counters/oddsoncounters/numeric/Jet", "slopeLow", "(I)D"⟩ : MethodName)) hown (mvT hZ (hw _ (List.mem_of_getElem? (i := 29) rfl))) (mvT hZ (hw _ (List.mem_of_getElem? (i := 30) rfl))) (notFace_of_selects (args := #[]) (mvT hZ (hw _ (List.mem_of_getElem? (i := 32) rfl)))) (mvT hZ (hw _ (List.mem_of_getElem? (i := 32) rfl))) (mvT hZ (hw _ (List.mem_of_getElem? (i := 31) rfl))) (by decide) (backOf (W := 0) (rm5_n l Z a0 hw [] b1 (0 : Int32) T2.heap n0 Zs2 f4) hZ (hw _ (List.mem_of_getElem? (i := 33) rfl)) (hw _ (List.mem_of_getElem? (i := 4) rfl)) (by decide) (by decide)) q9a q9c (g := (mkF m 130 #[.val (.int p0), .val (.int p1), .val (.int p2), .val (.int p3), .val (.int p4), .val (.int (0 : Int32)), .val (.double (FP.i2d (p3 &&& (2147483647 : Int32)))), .second, .val (.double (FP.dadd (FP.i2d (p3 &&& (2147483647 : Int32))) (FP.i2d (p4 &&& (65535 : Int32))))), .second, .val .null, .val .null, .val (.ref b1), .val (.int (1 : Int32)), .unset, .unset, .unset, .unset] [(.int (0 : Int32)), (.ref b1)])) rfl (by rw [hml]; rfl) (Steps.refl _) (argsL := [(.int (0 : Int32))]) (rest := []) (lenOf pd_3 rfl) rfl (by show 2 * 0 + _ ≤ _; exact Nat.le_of_eq rfl) (hb hby at_130) (fun _ _ => ⟨rfl, e8, (by decide : 1 + 0 ≤ _), (by decide : 4 + 0 ≤ _)⟩)
  dsimp only [Pt.U, Pt.locs, Pt.cells, Pt.slots] at X9 l9 y9 z9 st9 hQ9
  subst l9 y9 z9
  obtain ⟨rfl, N9q, eh9⟩ := hQ9
  have N9 := Fr.app N8 N9q
  have e9 : T9.heap = T2.heap := eh9
  obtain ⟨cq10, kq10, q10a, q10b, q10c⟩ := isOf hZ e9 f3
  obtain ⟨_, _, ⟨T10, L10, k10, n10⟩, -, X10, ⟨Lc10, hQ10, l10, y10, z10⟩, st10⟩ := X9.virtualBack hx (y := (⟨"com/example/odds_on_counters/oddsoncounters/numeric/Jet", "slopeHigh", "(I)D"⟩ : MethodName)) (z := (⟨"com/example/odds_on_counters/oddsoncounters/numeric/Jet", "slopeHigh", "(I)D"⟩ : MethodName)) hown (mvT hZ (hw _ (List.mem_of_getElem? (i := 34) rfl))) (mvT hZ (hw _ (List.mem_of_getElem? (i := 35) rfl))) (notFace_of_selects (args := #[]) (mvT hZ (hw _ (List.mem_of_getElem? (i := 37) rfl)))) (mvT hZ (hw _ (List.mem_of_getElem? (i := 37) rfl))) (mvT hZ (hw _ (List.mem_of_getElem? (i := 36) rfl))) (by decide) (backOf (W := 0) (rm6_n l Z a0 hw [] b1 (0 : Int32) T2.heap n0 Zs2 f5) hZ (hw _ (List.mem_of_getElem? (i := 38) rfl)) (hw _ (List.mem_of_getElem? (i := 4) rfl)) (by decide) (by decide)) q10a q10c (g := (mkF m 138 #[.val (.int p0), .val (.int p1), .val (.int p2), .val (.int p3), .val (.int p4), .val (.int (0 : Int32)), .val (.double (FP.i2d (p3 &&& (2147483647 : Int32)))), .second, .val (.double (FP.dadd (FP.i2d (p3 &&& (2147483647 : Int32))) (FP.i2d (p4 &&& (65535 : Int32))))), .second, .val .null, .val .null, .val (.ref b1), .val (.int (1 : Int32)), .val (.double (0 : UInt64)), .second, .unset, .unset] [(.int (0 : Int32)), (.ref b1)])) rfl (by rw [hml]; rfl) (Steps.refl _) (argsL := [(.int (0 : Int32))]) (rest := []) (lenOf pd_3 rfl) rfl (by show 2 * 0 + _ ≤ _; exact Nat.le_of_eq rfl) (hb hby at_138) (fun _ _ => ⟨rfl, e9, (by decide : 1 + 0 ≤ _), (by decide : 4 + 0 ≤ _)⟩)
  dsimp only [Pt.U, Pt.locs, Pt.cells, Pt.slots] at X10 l10 y10 z10 st10 hQ10
  subst l10 y10 z10
  obtain ⟨rfl, N10q, eh10⟩ := hQ10
  have N10 := Fr.app N9 N10q
  have e10 : T10.heap = T2.heap := eh10
  obtain ⟨fs, hr, hrun, hended, hW, hsame⟩ := X10.leave (v := some (.int (1 : Int32))) (fun h => by rw [Bd.returns] at h; cases h)
  refine ⟨_, _, pre0 _ ?_, hrun, hended, _, _, rfl, ?_, ⟨_, rfl⟩, hW, hsame.mono (by decide) (by decide)⟩
  · show Steps p.tables e below (s₁.setTop (mkF m 0 #[.val (.int p0), .val (.int p1), .val (.int p2), .val (.int p3), .val (.int p4), .unset, .unset, .unset, .unset, .unset, .unset, .unset, .unset, .unset, .unset, .unset, .unset, .unset] [])) _
    refine XS.iloadN X0.here hx rfl (hb hby at_0) rfl ?_
    show Steps p.tables e below (s₁.setTop (mkF m 1 #[.val (.int p0), .val (.int p1), .val (.int p2), .val (.int p3), .val (.int p4), .unset, .unset, .unset, .unset, .unset, .unset, .unset, .unset, .unset, .unset, .unset, .unset, .unset] [(.int p0)])) _
    refine XS.iconst X0.here hx rfl (hb hby at_1) ?_
    show Steps p.tables e below (s₁.setTop (mkF m 2 #[.val (.int p0), .val (.int p1), .val (.int p2), .val (.int p3), .val (.int p4), .unset, .unset, .unset, .unset, .unset, .unset, .unset, .unset, .unset, .unset, .unset, .unset, .unset] [(.int (1 : Int32)), (.int p0)])) _
    refine XS.iand X0.here hx rfl (hb hby at_2) rfl ?_
    show Steps p.tables e below (s₁.setTop (mkF m 3 #[.val (.int p0), .val (.int p1), .val (.int p2), .val (.int p3), .val (.int p4), .unset, .unset, .unset, .unset, .unset, .unset, .unset, .unset, .unset, .unset, .unset, .unset, .unset] [(.int (p0 &&& (1 : Int32)))])) _
    refine XS.ifYes X0.here hx rfl (pc0 := 3) (pc' := 10) rfl (hb hby at_3) rfl ((if0 _ _).trans (teq hc3).1) (by decide) (by decide) ?_
    show Steps p.tables e below (s₁.setTop (mkF m 10 #[.val (.int p0), .val (.int p1), .val (.int p2), .val (.int p3), .val (.int p4), .unset, .unset, .unset, .unset, .unset, .unset, .unset, .unset, .unset, .unset, .unset, .unset, .unset] [])) _
    refine XS.iconst X0.here hx rfl (hb hby at_10) ?_
    show Steps p.tables e below (s₁.setTop (mkF m 11 #[.val (.int p0), .val (.int p1), .val (.int p2), .val (.int p3), .val (.int p4), .unset, .unset, .unset, .unset, .unset, .unset, .unset, .unset, .unset, .unset, .unset, .unset, .unset] [(.int (0 : Int32))])) _
    refine XS.istore X0.here hx rfl (hb hby at_11) rfl (l' := #[.val (.int p0), .val (.int p1), .val (.int p2), .val (.int p3), .val (.int p4), .val (.int (0 : Int32)), .unset, .unset, .unset, .unset, .unset, .unset, .unset, .unset, .unset, .unset, .unset, .unset]) rfl ?_
    show Steps p.tables e below (s₁.setTop (mkF m 13 #[.val (.int p0), .val (.int p1), .val (.int p2), .val (.int p3), .val (.int p4), .val (.int (0 : Int32)), .unset, .unset, .unset, .unset, .unset, .unset, .unset, .unset, .unset, .unset, .unset, .unset] [])) _
    refine XS.iloadN X0.here hx rfl (hb hby at_13) rfl ?_
    show Steps p.tables e below (s₁.setTop (mkF m 14 #[.val (.int p0), .val (.int p1), .val (.int p2), .val (.int p3), .val (.int p4), .val (.int (0 : Int32)), .unset, .unset, .unset, .unset, .unset, .unset, .unset, .unset, .unset, .unset, .unset, .unset] [(.int p3)])) _
    refine X0.ldcInt hx hown (mvT hZ (hw _ (List.mem_of_getElem? (i := 0) rfl))) (g := (mkF m 14 #[.val (.int p0), .val (.int p1), .val (.int p2), .val (.int p3), .val (.int p4), .val (.int (0 : Int32)), .unset, .unset, .unset, .unset, .unset, .unset, .unset, .unset, .unset, .unset, .unset, .unset] [(.int p3)])) rfl (hb hby at_14) _ ?_
    show Steps p.tables e below (s₁.setTop (mkF m 16 #[.val (.int p0), .val (.int p1), .val (.int p2), .val (.int p3), .val (.int p4), .val (.int (0 : Int32)), .unset, .unset, .unset, .unset, .unset, .unset, .unset, .unset, .unset, .unset, .unset, .unset] [(.int (2147483647 : Int32)), (.int p3)])) _
    refine XS.iand X0.here hx rfl (hb hby at_16) rfl ?_
    show Steps p.tables e below (s₁.setTop (mkF m 17 #[.val (.int p0), .val (.int p1), .val (.int p2), .val (.int p3), .val (.int p4), .val (.int (0 : Int32)), .unset, .unset, .unset, .unset, .unset, .unset, .unset, .unset, .unset, .unset, .unset, .unset] [(.int (p3 &&& (2147483647 : Int32)))])) _
    refine XS.i2dS X0.here hx rfl (hb hby at_17) rfl (v := (FP.i2d (p3 &&& (2147483647 : Int32)))) rfl ?_
    show Steps p.tables e below (s₁.setTop (mkF m 18 #[.val (.int p0), .val (.int p1), .val (.int p2), .val (.int p3), .val (.int p4), .val (.int (0 : Int32)), .unset, .unset, .unset, .unset, .unset, .unset, .unset, .unset, .unset, .unset, .unset, .unset] [(.double (FP.i2d (p3 &&& (2147483647 : Int32))))])) _
    refine XS.dstore X0.here hx rfl (hb hby at_18) rfl (l' := #[.val (.int p0), .val (.int p1), .val (.int p2), .val (.int p3), .val (.int p4), .val (.int (0 : Int32)), .val (.double (FP.i2d (p3 &&& (2147483647 : Int32)))), .second, .unset, .unset, .unset, .unset, .unset, .unset, .unset, .unset, .unset, .unset]) rfl ?_
    show Steps p.tables e below (s₁.setTop (mkF m 20 #[.val (.int p0), .val (.int p1), .val (.int p2), .val (.int p3), .val (.int p4), .val (.int (0 : Int32)), .val (.double (FP.i2d (p3 &&& (2147483647 : Int32)))), .second, .unset, .unset, .unset, .unset, .unset, .unset, .unset, .unset, .unset, .unset] [])) _
    refine XS.dload X0.here hx rfl (hb hby at_20) rfl ?_
    show Steps p.tables e below (s₁.setTop (mkF m 22 #[.val (.int p0), .val (.int p1), .val (.int p2), .val (.int p3), .val (.int p4), .val (.int (0 : Int32)), .val (.double (FP.i2d (p3 &&& (2147483647 : Int32)))), .second, .unset, .unset, .unset, .unset, .unset, .unset, .unset, .unset, .unset, .unset] [(.double (FP.i2d (p3 &&& (2147483647 : Int32))))])) _
    refine XS.iload X0.here hx rfl (hb hby at_22) rfl ?_
    show Steps p.tables e below (s₁.setTop (mkF m 24 #[.val (.int p0), .val (.int p1), .val (.int p2), .val (.int p3), .val (.int p4), .val (.int (0 : Int32)), .val (.double (FP.i2d (p3 &&& (2147483647 : Int32)))), .second, .unset, .unset, .unset, .unset, .unset, .unset, .unset, .unset, .unset, .unset] [(.int p4), (.double (FP.i2d (p3 &&& (2147483647 : Int32))))])) _
    refine X0.ldcInt hx hown (mvT hZ (hw _ (List.mem_of_getElem? (i := 1) rfl))) (g := (mkF m 24 #[.val (.int p0), .val (.int p1), .val (.int p2), .val (.int p3), .val (.int p4), .val (.int (0 : Int32)), .val (.double (FP.i2d (p3 &&& (2147483647 : Int32)))), .second, .unset, .unset, .unset, .unset, .unset, .unset, .unset, .unset, .unset, .unset] [(.int p4), (.double (FP.i2d (p3 &&& (2147483647 : Int32))))])) rfl (hb hby at_24) _ ?_
    show Steps p.tables e below (s₁.setTop (mkF m 26 #[.val (.int p0), .val (.int p1), .val (.int p2), .val (.int p3), .val (.int p4), .val (.int (0 : Int32)), .val (.double (FP.i2d (p3 &&& (2147483647 : Int32)))), .second, .unset, .unset, .unset, .unset, .unset, .unset, .unset, .unset, .unset, .unset] [(.int (65535 : Int32)), (.int p4), (.double (FP.i2d (p3 &&& (2147483647 : Int32))))])) _
    refine XS.iand X0.here hx rfl (hb hby at_26) rfl ?_
    show Steps p.tables e below (s₁.setTop (mkF m 27 #[.val (.int p0), .val (.int p1), .val (.int p2), .val (.int p3), .val (.int p4), .val (.int (0 : Int32)), .val (.double (FP.i2d (p3 &&& (2147483647 : Int32)))), .second, .unset, .unset, .unset, .unset, .unset, .unset, .unset, .unset, .unset, .unset] [(.int (p4 &&& (65535 : Int32))), (.double (FP.i2d (p3 &&& (2147483647 : Int32))))])) _
    refine XS.i2dS X0.here hx rfl (hb hby at_27) rfl (v := (FP.i2d (p4 &&& (65535 : Int32)))) rfl ?_
    show Steps p.tables e below (s₁.setTop (mkF m 28 #[.val (.int p0), .val (.int p1), .val (.int p2), .val (.int p3), .val (.int p4), .val (.int (0 : Int32)), .val (.double (FP.i2d (p3 &&& (2147483647 : Int32)))), .second, .unset, .unset, .unset, .unset, .unset, .unset, .unset, .unset, .unset, .unset] [(.double (FP.i2d (p4 &&& (65535 : Int32)))), (.double (FP.i2d (p3 &&& (2147483647 : Int32))))])) _
    refine XS.daddS X0.here hx rfl (hb hby at_28) rfl nn28 (v := (FP.dadd (FP.i2d (p3 &&& (2147483647 : Int32))) (FP.i2d (p4 &&& (65535 : Int32))))) rfl ?_
    show Steps p.tables e below (s₁.setTop (mkF m 29 #[.val (.int p0), .val (.int p1), .val (.int p2), .val (.int p3), .val (.int p4), .val (.int (0 : Int32)), .val (.double (FP.i2d (p3 &&& (2147483647 : Int32)))), .second, .unset, .unset, .unset, .unset, .unset, .unset, .unset, .unset, .unset, .unset] [(.double (FP.dadd (FP.i2d (p3 &&& (2147483647 : Int32))) (FP.i2d (p4 &&& (65535 : Int32)))))])) _
    refine XS.dstore X0.here hx rfl (hb hby at_29) rfl (l' := #[.val (.int p0), .val (.int p1), .val (.int p2), .val (.int p3), .val (.int p4), .val (.int (0 : Int32)), .val (.double (FP.i2d (p3 &&& (2147483647 : Int32)))), .second, .val (.double (FP.dadd (FP.i2d (p3 &&& (2147483647 : Int32))) (FP.i2d (p4 &&& (65535 : Int32))))), .second, .unset, .unset, .unset, .unset, .unset, .unset, .unset, .unset]) rfl ?_
    show Steps p.tables e below (s₁.setTop (mkF m 31 #[.val (.int p0), .val (.int p1), .val (.int p2), .val (.int p3), .val (.int p4), .val (.int (0 : Int32)), .val (.double (FP.i2d (p3 &&& (2147483647 : Int32)))), .second, .val (.double (FP.dadd (FP.i2d (p3 &&& (2147483647 : Int32))) (FP.i2d (p4 &&& (65535 : Int32))))), .second, .unset, .unset, .unset, .unset, .unset, .unset, .unset, .unset] [])) _
    refine XS.aconstNull X0.here hx rfl (hb hby at_31) ?_
    show Steps p.tables e below (s₁.setTop (mkF m 32 #[.val (.int p0), .val (.int p1), .val (.int p2), .val (.int p3), .val (.int p4), .val (.int (0 : Int32)), .val (.double (FP.i2d (p3 &&& (2147483647 : Int32)))), .second, .val (.double (FP.dadd (FP.i2d (p3 &&& (2147483647 : Int32))) (FP.i2d (p4 &&& (65535 : Int32))))), .second, .unset, .unset, .unset, .unset, .unset, .unset, .unset, .unset] [.null])) _
    refine XS.astore X0.here hx rfl (hb hby at_32) rfl rfl (l' := #[.val (.int p0), .val (.int p1), .val (.int p2), .val (.int p3), .val (.int p4), .val (.int (0 : Int32)), .val (.double (FP.i2d (p3 &&& (2147483647 : Int32)))), .second, .val (.double (FP.dadd (FP.i2d (p3 &&& (2147483647 : Int32))) (FP.i2d (p4 &&& (65535 : Int32))))), .second, .val .null, .unset, .unset, .unset, .unset, .unset, .unset, .unset]) rfl ?_
    show Steps p.tables e below (s₁.setTop (mkF m 34 #[.val (.int p0), .val (.int p1), .val (.int p2), .val (.int p3), .val (.int p4), .val (.int (0 : Int32)), .val (.double (FP.i2d (p3 &&& (2147483647 : Int32)))), .second, .val (.double (FP.dadd (FP.i2d (p3 &&& (2147483647 : Int32))) (FP.i2d (p4 &&& (65535 : Int32))))), .second, .val .null, .unset, .unset, .unset, .unset, .unset, .unset, .unset] [])) _
    refine XS.aconstNull X0.here hx rfl (hb hby at_34) ?_
    show Steps p.tables e below (s₁.setTop (mkF m 35 #[.val (.int p0), .val (.int p1), .val (.int p2), .val (.int p3), .val (.int p4), .val (.int (0 : Int32)), .val (.double (FP.i2d (p3 &&& (2147483647 : Int32)))), .second, .val (.double (FP.dadd (FP.i2d (p3 &&& (2147483647 : Int32))) (FP.i2d (p4 &&& (65535 : Int32))))), .second, .val .null, .unset, .unset, .unset, .unset, .unset, .unset, .unset] [.null])) _
    refine XS.astore X0.here hx rfl (hb hby at_35) rfl rfl (l' := #[.val (.int p0), .val (.int p1), .val (.int p2), .val (.int p3), .val (.int p4), .val (.int (0 : Int32)), .val (.double (FP.i2d (p3 &&& (2147483647 : Int32)))), .second, .val (.double (FP.dadd (FP.i2d (p3 &&& (2147483647 : Int32))) (FP.i2d (p4 &&& (65535 : Int32))))), .second, .val .null, .val .null, .unset, .unset, .unset, .unset, .unset, .unset]) rfl ?_
    show Steps p.tables e below (s₁.setTop (mkF m 37 #[.val (.int p0), .val (.int p1), .val (.int p2), .val (.int p3), .val (.int p4), .val (.int (0 : Int32)), .val (.double (FP.i2d (p3 &&& (2147483647 : Int32)))), .second, .val (.double (FP.dadd (FP.i2d (p3 &&& (2147483647 : Int32))) (FP.i2d (p4 &&& (65535 : Int32))))), .second, .val .null, .val .null, .unset, .unset, .unset, .unset, .unset, .unset] [])) _
    refine XS.iload X0.here hx rfl (hb hby at_37) rfl ?_
    show Steps p.tables e below (s₁.setTop (mkF m 39 #[.val (.int p0), .val (.int p1), .val (.int p2), .val (.int p3), .val (.int p4), .val (.int (0 : Int32)), .val (.double (FP.i2d (p3 &&& (2147483647 : Int32)))), .second, .val (.double (FP.dadd (FP.i2d (p3 &&& (2147483647 : Int32))) (FP.i2d (p4 &&& (65535 : Int32))))), .second, .val .null, .val .null, .unset, .unset, .unset, .unset, .unset, .unset] [(.int (0 : Int32))])) _
    refine XS.ifYes X0.here hx rfl (pc0 := 39) (pc' := 66) rfl (hb hby at_39) rfl ((if0 _ _).trans (teq (by decide : (0 : Int32) = (0 : Int32))).1) (by decide) (by decide) ?_
    show Steps p.tables e below (s₁.setTop (mkF m 66 #[.val (.int p0), .val (.int p1), .val (.int p2), .val (.int p3), .val (.int p4), .val (.int (0 : Int32)), .val (.double (FP.i2d (p3 &&& (2147483647 : Int32)))), .second, .val (.double (FP.dadd (FP.i2d (p3 &&& (2147483647 : Int32))) (FP.i2d (p4 &&& (65535 : Int32))))), .second, .val .null, .val .null, .unset, .unset, .unset, .unset, .unset, .unset] [])) _
    refine st1 _ ?_
    show Steps p.tables e below (T1.setTop (mkF m 69 #[.val (.int p0), .val (.int p1), .val (.int p2), .val (.int p3), .val (.int p4), .val (.int (0 : Int32)), .val (.double (FP.i2d (p3 &&& (2147483647 : Int32)))), .second, .val (.double (FP.dadd (FP.i2d (p3 &&& (2147483647 : Int32))) (FP.i2d (p4 &&& (65535 : Int32))))), .second, .val .null, .val .null, .unset, .unset, .unset, .unset, .unset, .unset] [(.ref b1)])) _
    refine XS.dup X1.here hx rfl (hb hby at_69) rfl rfl ?_
    show Steps p.tables e below (T1.setTop (mkF m 70 #[.val (.int p0), .val (.int p1), .val (.int p2), .val (.int p3), .val (.int p4), .val (.int (0 : Int32)), .val (.double (FP.i2d (p3 &&& (2147483647 : Int32)))), .second, .val (.double (FP.dadd (FP.i2d (p3 &&& (2147483647 : Int32))) (FP.i2d (p4 &&& (65535 : Int32))))), .second, .val .null, .val .null, .unset, .unset, .unset, .unset, .unset, .unset] [(.ref b1), (.ref b1)])) _
    refine XS.dload X1.here hx rfl (hb hby at_70) rfl ?_
    show Steps p.tables e below (T1.setTop (mkF m 72 #[.val (.int p0), .val (.int p1), .val (.int p2), .val (.int p3), .val (.int p4), .val (.int (0 : Int32)), .val (.double (FP.i2d (p3 &&& (2147483647 : Int32)))), .second, .val (.double (FP.dadd (FP.i2d (p3 &&& (2147483647 : Int32))) (FP.i2d (p4 &&& (65535 : Int32))))), .second, .val .null, .val .null, .unset, .unset, .unset, .unset, .unset, .unset] [(.double (FP.i2d (p3 &&& (2147483647 : Int32)))), (.ref b1), (.ref b1)])) _
    refine XS.dload X1.here hx rfl (hb hby at_72) rfl ?_
    show Steps p.tables e below (T1.setTop (mkF m 74 #[.val (.int p0), .val (.int p1), .val (.int p2), .val (.int p3), .val (.int p4), .val (.int (0 : Int32)), .val (.double (FP.i2d (p3 &&& (2147483647 : Int32)))), .second, .val (.double (FP.dadd (FP.i2d (p3 &&& (2147483647 : Int32))) (FP.i2d (p4 &&& (65535 : Int32))))), .second, .val .null, .val .null, .unset, .unset, .unset, .unset, .unset, .unset] [(.double (FP.dadd (FP.i2d (p3 &&& (2147483647 : Int32))) (FP.i2d (p4 &&& (65535 : Int32))))), (.double (FP.i2d (p3 &&& (2147483647 : Int32)))), (.ref b1), (.ref b1)])) _
    refine XS.aload X1.here hx rfl (hb hby at_74) rfl rfl ?_
    show Steps p.tables e below (T1.setTop (mkF m 76 #[.val (.int p0), .val (.int p1), .val (.int p2), .val (.int p3), .val (.int p4), .val (.int (0 : Int32)), .val (.double (FP.i2d (p3 &&& (2147483647 : Int32)))), .second, .val (.double (FP.dadd (FP.i2d (p3 &&& (2147483647 : Int32))) (FP.i2d (p4 &&& (65535 : Int32))))), .second, .val .null, .val .null, .unset, .unset, .unset, .unset, .unset, .unset] [.null, (.double (FP.dadd (FP.i2d (p3 &&& (2147483647 : Int32))) (FP.i2d (p4 &&& (65535 : Int32))))), (.double (FP.i2d (p3 &&& (2147483647 : Int32)))), (.ref b1), (.ref b1)])) _
    refine XS.aload X1.here hx rfl (hb hby at_76) rfl rfl ?_
    show Steps p.tables e below (T1.setTop (mkF m 78 #[.val (.int p0), .val (.int p1), .val (.int p2), .val (.int p3), .val (.int p4), .val (.int (0 : Int32)), .val (.double (FP.i2d (p3 &&& (2147483647 : Int32)))), .second, .val (.double (FP.dadd (FP.i2d (p3 &&& (2147483647 : Int32))) (FP.i2d (p4 &&& (65535 : Int32))))), .second, .val .null, .val .null, .unset, .unset, .unset, .unset, .unset, .unset] [.null, .null, (.double (FP.dadd (FP.i2d (p3 &&& (2147483647 : Int32))) (FP.i2d (p4 &&& (65535 : Int32))))), (.double (FP.i2d (p3 &&& (2147483647 : Int32)))), (.ref b1), (.ref b1)])) _
    refine st2.trans ?_
    show Steps p.tables e below (T2.setTop (mkF m 81 #[.val (.int p0), .val (.int p1), .val (.int p2), .val (.int p3), .val (.int p4), .val (.int (0 : Int32)), .val (.double (FP.i2d (p3 &&& (2147483647 : Int32)))), .second, .val (.double (FP.dadd (FP.i2d (p3 &&& (2147483647 : Int32))) (FP.i2d (p4 &&& (65535 : Int32))))), .second, .val .null, .val .null, .unset, .unset, .unset, .unset, .unset, .unset] [(.ref b1)])) _
    refine XS.astore X2.here hx rfl (hb hby at_81) rfl rfl (l' := #[.val (.int p0), .val (.int p1), .val (.int p2), .val (.int p3), .val (.int p4), .val (.int (0 : Int32)), .val (.double (FP.i2d (p3 &&& (2147483647 : Int32)))), .second, .val (.double (FP.dadd (FP.i2d (p3 &&& (2147483647 : Int32))) (FP.i2d (p4 &&& (65535 : Int32))))), .second, .val .null, .val .null, .val (.ref b1), .unset, .unset, .unset, .unset, .unset]) rfl ?_
    show Steps p.tables e below (T2.setTop (mkF m 83 #[.val (.int p0), .val (.int p1), .val (.int p2), .val (.int p3), .val (.int p4), .val (.int (0 : Int32)), .val (.double (FP.i2d (p3 &&& (2147483647 : Int32)))), .second, .val (.double (FP.dadd (FP.i2d (p3 &&& (2147483647 : Int32))) (FP.i2d (p4 &&& (65535 : Int32))))), .second, .val .null, .val .null, .val (.ref b1), .unset, .unset, .unset, .unset, .unset] [])) _
    refine XS.aload X2.here hx rfl (hb hby at_83) rfl rfl ?_
    show Steps p.tables e below (T2.setTop (mkF m 85 #[.val (.int p0), .val (.int p1), .val (.int p2), .val (.int p3), .val (.int p4), .val (.int (0 : Int32)), .val (.double (FP.i2d (p3 &&& (2147483647 : Int32)))), .second, .val (.double (FP.dadd (FP.i2d (p3 &&& (2147483647 : Int32))) (FP.i2d (p4 &&& (65535 : Int32))))), .second, .val .null, .val .null, .val (.ref b1), .unset, .unset, .unset, .unset, .unset] [(.ref b1)])) _
    refine st7.trans ?_
    show Steps p.tables e below (T7.setTop (mkF m 88 #[.val (.int p0), .val (.int p1), .val (.int p2), .val (.int p3), .val (.int p4), .val (.int (0 : Int32)), .val (.double (FP.i2d (p3 &&& (2147483647 : Int32)))), .second, .val (.double (FP.dadd (FP.i2d (p3 &&& (2147483647 : Int32))) (FP.i2d (p4 &&& (65535 : Int32))))), .second, .val .null, .val .null, .val (.ref b1), .unset, .unset, .unset, .unset, .unset] [(.int (1 : Int32))])) _
    refine XS.istore X7.here hx rfl (hb hby at_88) rfl (l' := #[.val (.int p0), .val (.int p1), .val (.int p2), .val (.int p3), .val (.int p4), .val (.int (0 : Int32)), .val (.double (FP.i2d (p3 &&& (2147483647 : Int32)))), .second, .val (.double (FP.dadd (FP.i2d (p3 &&& (2147483647 : Int32))) (FP.i2d (p4 &&& (65535 : Int32))))), .second, .val .null, .val .null, .val (.ref b1), .val (.int (1 : Int32)), .unset, .unset, .unset, .unset]) rfl ?_
    show Steps p.tables e below (T7.setTop (mkF m 90 #[.val (.int p0), .val (.int p1), .val (.int p2), .val (.int p3), .val (.int p4), .val (.int (0 : Int32)), .val (.double (FP.i2d (p3 &&& (2147483647 : Int32)))), .second, .val (.double (FP.dadd (FP.i2d (p3 &&& (2147483647 : Int32))) (FP.i2d (p4 &&& (65535 : Int32))))), .second, .val .null, .val .null, .val (.ref b1), .val (.int (1 : Int32)), .unset, .unset, .unset, .unset] [])) _
    refine XS.iload X7.here hx rfl (hb hby at_90) rfl ?_
    show Steps p.tables e below (T7.setTop (mkF m 92 #[.val (.int p0), .val (.int p1), .val (.int p2), .val (.int p3), .val (.int p4), .val (.int (0 : Int32)), .val (.double (FP.i2d (p3 &&& (2147483647 : Int32)))), .second, .val (.double (FP.dadd (FP.i2d (p3 &&& (2147483647 : Int32))) (FP.i2d (p4 &&& (65535 : Int32))))), .second, .val .null, .val .null, .val (.ref b1), .val (.int (1 : Int32)), .unset, .unset, .unset, .unset] [(.int (1 : Int32))])) _
    refine XS.iload X7.here hx rfl (hb hby at_92) rfl ?_
    show Steps p.tables e below (T7.setTop (mkF m 94 #[.val (.int p0), .val (.int p1), .val (.int p2), .val (.int p3), .val (.int p4), .val (.int (0 : Int32)), .val (.double (FP.i2d (p3 &&& (2147483647 : Int32)))), .second, .val (.double (FP.dadd (FP.i2d (p3 &&& (2147483647 : Int32))) (FP.i2d (p4 &&& (65535 : Int32))))), .second, .val .null, .val .null, .val (.ref b1), .val (.int (1 : Int32)), .unset, .unset, .unset, .unset] [(.int (0 : Int32)), (.int (1 : Int32))])) _
    refine XS.ifNo X7.here hx rfl (hb hby at_94) rfl ((if0 _ _).trans (teq (by decide : (0 : Int32) = (0 : Int32))).2) ?_
    show Steps p.tables e below (T7.setTop (mkF m 97 #[.val (.int p0), .val (.int p1), .val (.int p2), .val (.int p3), .val (.int p4), .val (.int (0 : Int32)), .val (.double (FP.i2d (p3 &&& (2147483647 : Int32)))), .second, .val (.double (FP.dadd (FP.i2d (p3 &&& (2147483647 : Int32))) (FP.i2d (p4 &&& (65535 : Int32))))), .second, .val .null, .val .null, .val (.ref b1), .val (.int (1 : Int32)), .unset, .unset, .unset, .unset] [(.int (1 : Int32))])) _
    refine XS.iconst X7.here hx rfl (hb hby at_97) ?_
    show Steps p.tables e below (T7.setTop (mkF m 98 #[.val (.int p0), .val (.int p1), .val (.int p2), .val (.int p3), .val (.int p4), .val (.int (0 : Int32)), .val (.double (FP.i2d (p3 &&& (2147483647 : Int32)))), .second, .val (.double (FP.dadd (FP.i2d (p3 &&& (2147483647 : Int32))) (FP.i2d (p4 &&& (65535 : Int32))))), .second, .val .null, .val .null, .val (.ref b1), .val (.int (1 : Int32)), .unset, .unset, .unset, .unset] [(.int (1 : Int32)), (.int (1 : Int32))])) _
    refine XS.goto X7.here hx rfl (pc0 := 98) (pc' := 102) rfl (hb hby at_98) (by decide) (by decide) ?_
    show Steps p.tables e below (T7.setTop (mkF m 102 #[.val (.int p0), .val (.int p1), .val (.int p2), .val (.int p3), .val (.int p4), .val (.int (0 : Int32)), .val (.double (FP.i2d (p3 &&& (2147483647 : Int32)))), .second, .val (.double (FP.dadd (FP.i2d (p3 &&& (2147483647 : Int32))) (FP.i2d (p4 &&& (65535 : Int32))))), .second, .val .null, .val .null, .val (.ref b1), .val (.int (1 : Int32)), .unset, .unset, .unset, .unset] [(.int (1 : Int32)), (.int (1 : Int32))])) _
    refine XS.icmpYes X7.here hx rfl (pc0 := 102) (pc' := 107) rfl (hb hby at_102) rfl (teq (by decide : (1 : Int32) = (1 : Int32))).1 (by decide) (by decide) ?_
    show Steps p.tables e below (T7.setTop (mkF m 107 #[.val (.int p0), .val (.int p1), .val (.int p2), .val (.int p3), .val (.int p4), .val (.int (0 : Int32)), .val (.double (FP.i2d (p3 &&& (2147483647 : Int32)))), .second, .val (.double (FP.dadd (FP.i2d (p3 &&& (2147483647 : Int32))) (FP.i2d (p4 &&& (65535 : Int32))))), .second, .val .null, .val .null, .val (.ref b1), .val (.int (1 : Int32)), .unset, .unset, .unset, .unset] [])) _
    refine XS.iload X7.here hx rfl (hb hby at_107) rfl ?_
    show Steps p.tables e below (T7.setTop (mkF m 109 #[.val (.int p0), .val (.int p1), .val (.int p2), .val (.int p3), .val (.int p4), .val (.int (0 : Int32)), .val (.double (FP.i2d (p3 &&& (2147483647 : Int32)))), .second, .val (.double (FP.dadd (FP.i2d (p3 &&& (2147483647 : Int32))) (FP.i2d (p4 &&& (65535 : Int32))))), .second, .val .null, .val .null, .val (.ref b1), .val (.int (1 : Int32)), .unset, .unset, .unset, .unset] [(.int (1 : Int32))])) _
    refine XS.aload X7.here hx rfl (hb hby at_109) rfl rfl ?_
    show Steps p.tables e below (T7.setTop (mkF m 111 #[.val (.int p0), .val (.int p1), .val (.int p2), .val (.int p3), .val (.int p4), .val (.int (0 : Int32)), .val (.double (FP.i2d (p3 &&& (2147483647 : Int32)))), .second, .val (.double (FP.dadd (FP.i2d (p3 &&& (2147483647 : Int32))) (FP.i2d (p4 &&& (65535 : Int32))))), .second, .val .null, .val .null, .val (.ref b1), .val (.int (1 : Int32)), .unset, .unset, .unset, .unset] [(.ref b1), (.int (1 : Int32))])) _
    refine st8.trans ?_
    show Steps p.tables e below (T8.setTop (mkF m 114 #[.val (.int p0), .val (.int p1), .val (.int p2), .val (.int p3), .val (.int p4), .val (.int (0 : Int32)), .val (.double (FP.i2d (p3 &&& (2147483647 : Int32)))), .second, .val (.double (FP.dadd (FP.i2d (p3 &&& (2147483647 : Int32))) (FP.i2d (p4 &&& (65535 : Int32))))), .second, .val .null, .val .null, .val (.ref b1), .val (.int (1 : Int32)), .unset, .unset, .unset, .unset] [.null, (.int (1 : Int32))])) _
    refine XS.ifnonnullNo X8.here hx rfl (hb hby at_114) rfl ?_
    show Steps p.tables e below (T8.setTop (mkF m 117 #[.val (.int p0), .val (.int p1), .val (.int p2), .val (.int p3), .val (.int p4), .val (.int (0 : Int32)), .val (.double (FP.i2d (p3 &&& (2147483647 : Int32)))), .second, .val (.double (FP.dadd (FP.i2d (p3 &&& (2147483647 : Int32))) (FP.i2d (p4 &&& (65535 : Int32))))), .second, .val .null, .val .null, .val (.ref b1), .val (.int (1 : Int32)), .unset, .unset, .unset, .unset] [(.int (1 : Int32))])) _
    refine XS.iconst X8.here hx rfl (hb hby at_117) ?_
    show Steps p.tables e below (T8.setTop (mkF m 118 #[.val (.int p0), .val (.int p1), .val (.int p2), .val (.int p3), .val (.int p4), .val (.int (0 : Int32)), .val (.double (FP.i2d (p3 &&& (2147483647 : Int32)))), .second, .val (.double (FP.dadd (FP.i2d (p3 &&& (2147483647 : Int32))) (FP.i2d (p4 &&& (65535 : Int32))))), .second, .val .null, .val .null, .val (.ref b1), .val (.int (1 : Int32)), .unset, .unset, .unset, .unset] [(.int (1 : Int32)), (.int (1 : Int32))])) _
    refine XS.goto X8.here hx rfl (pc0 := 118) (pc' := 122) rfl (hb hby at_118) (by decide) (by decide) ?_
    show Steps p.tables e below (T8.setTop (mkF m 122 #[.val (.int p0), .val (.int p1), .val (.int p2), .val (.int p3), .val (.int p4), .val (.int (0 : Int32)), .val (.double (FP.i2d (p3 &&& (2147483647 : Int32)))), .second, .val (.double (FP.dadd (FP.i2d (p3 &&& (2147483647 : Int32))) (FP.i2d (p4 &&& (65535 : Int32))))), .second, .val .null, .val .null, .val (.ref b1), .val (.int (1 : Int32)), .unset, .unset, .unset, .unset] [(.int (1 : Int32)), (.int (1 : Int32))])) _
    refine XS.icmpYes X8.here hx rfl (pc0 := 122) (pc' := 127) rfl (hb hby at_122) rfl (teq (by decide : (1 : Int32) = (1 : Int32))).1 (by decide) (by decide) ?_
    show Steps p.tables e below (T8.setTop (mkF m 127 #[.val (.int p0), .val (.int p1), .val (.int p2), .val (.int p3), .val (.int p4), .val (.int (0 : Int32)), .val (.double (FP.i2d (p3 &&& (2147483647 : Int32)))), .second, .val (.double (FP.dadd (FP.i2d (p3 &&& (2147483647 : Int32))) (FP.i2d (p4 &&& (65535 : Int32))))), .second, .val .null, .val .null, .val (.ref b1), .val (.int (1 : Int32)), .unset, .unset, .unset, .unset] [])) _
    refine XS.aload X8.here hx rfl (hb hby at_127) rfl rfl ?_
    show Steps p.tables e below (T8.setTop (mkF m 129 #[.val (.int p0), .val (.int p1), .val (.int p2), .val (.int p3), .val (.int p4), .val (.int (0 : Int32)), .val (.double (FP.i2d (p3 &&& (2147483647 : Int32)))), .second, .val (.double (FP.dadd (FP.i2d (p3 &&& (2147483647 : Int32))) (FP.i2d (p4 &&& (65535 : Int32))))), .second, .val .null, .val .null, .val (.ref b1), .val (.int (1 : Int32)), .unset, .unset, .unset, .unset] [(.ref b1)])) _
    refine XS.iconst X8.here hx rfl (hb hby at_129) ?_
    show Steps p.tables e below (T8.setTop (mkF m 130 #[.val (.int p0), .val (.int p1), .val (.int p2), .val (.int p3), .val (.int p4), .val (.int (0 : Int32)), .val (.double (FP.i2d (p3 &&& (2147483647 : Int32)))), .second, .val (.double (FP.dadd (FP.i2d (p3 &&& (2147483647 : Int32))) (FP.i2d (p4 &&& (65535 : Int32))))), .second, .val .null, .val .null, .val (.ref b1), .val (.int (1 : Int32)), .unset, .unset, .unset, .unset] [(.int (0 : Int32)), (.ref b1)])) _
    refine st9.trans ?_
    show Steps p.tables e below (T9.setTop (mkF m 133 #[.val (.int p0), .val (.int p1), .val (.int p2), .val (.int p3), .val (.int p4), .val (.int (0 : Int32)), .val (.double (FP.i2d (p3 &&& (2147483647 : Int32)))), .second, .val (.double (FP.dadd (FP.i2d (p3 &&& (2147483647 : Int32))) (FP.i2d (p4 &&& (65535 : Int32))))), .second, .val .null, .val .null, .val (.ref b1), .val (.int (1 : Int32)), .unset, .unset, .unset, .unset] [(.double (0 : UInt64))])) _
    refine XS.dstore X9.here hx rfl (hb hby at_133) rfl (l' := #[.val (.int p0), .val (.int p1), .val (.int p2), .val (.int p3), .val (.int p4), .val (.int (0 : Int32)), .val (.double (FP.i2d (p3 &&& (2147483647 : Int32)))), .second, .val (.double (FP.dadd (FP.i2d (p3 &&& (2147483647 : Int32))) (FP.i2d (p4 &&& (65535 : Int32))))), .second, .val .null, .val .null, .val (.ref b1), .val (.int (1 : Int32)), .val (.double (0 : UInt64)), .second, .unset, .unset]) rfl ?_
    show Steps p.tables e below (T9.setTop (mkF m 135 #[.val (.int p0), .val (.int p1), .val (.int p2), .val (.int p3), .val (.int p4), .val (.int (0 : Int32)), .val (.double (FP.i2d (p3 &&& (2147483647 : Int32)))), .second, .val (.double (FP.dadd (FP.i2d (p3 &&& (2147483647 : Int32))) (FP.i2d (p4 &&& (65535 : Int32))))), .second, .val .null, .val .null, .val (.ref b1), .val (.int (1 : Int32)), .val (.double (0 : UInt64)), .second, .unset, .unset] [])) _
    refine XS.aload X9.here hx rfl (hb hby at_135) rfl rfl ?_
    show Steps p.tables e below (T9.setTop (mkF m 137 #[.val (.int p0), .val (.int p1), .val (.int p2), .val (.int p3), .val (.int p4), .val (.int (0 : Int32)), .val (.double (FP.i2d (p3 &&& (2147483647 : Int32)))), .second, .val (.double (FP.dadd (FP.i2d (p3 &&& (2147483647 : Int32))) (FP.i2d (p4 &&& (65535 : Int32))))), .second, .val .null, .val .null, .val (.ref b1), .val (.int (1 : Int32)), .val (.double (0 : UInt64)), .second, .unset, .unset] [(.ref b1)])) _
    refine XS.iconst X9.here hx rfl (hb hby at_137) ?_
    show Steps p.tables e below (T9.setTop (mkF m 138 #[.val (.int p0), .val (.int p1), .val (.int p2), .val (.int p3), .val (.int p4), .val (.int (0 : Int32)), .val (.double (FP.i2d (p3 &&& (2147483647 : Int32)))), .second, .val (.double (FP.dadd (FP.i2d (p3 &&& (2147483647 : Int32))) (FP.i2d (p4 &&& (65535 : Int32))))), .second, .val .null, .val .null, .val (.ref b1), .val (.int (1 : Int32)), .val (.double (0 : UInt64)), .second, .unset, .unset] [(.int (0 : Int32)), (.ref b1)])) _
    refine st10.trans ?_
    show Steps p.tables e below (T10.setTop (mkF m 141 #[.val (.int p0), .val (.int p1), .val (.int p2), .val (.int p3), .val (.int p4), .val (.int (0 : Int32)), .val (.double (FP.i2d (p3 &&& (2147483647 : Int32)))), .second, .val (.double (FP.dadd (FP.i2d (p3 &&& (2147483647 : Int32))) (FP.i2d (p4 &&& (65535 : Int32))))), .second, .val .null, .val .null, .val (.ref b1), .val (.int (1 : Int32)), .val (.double (0 : UInt64)), .second, .unset, .unset] [(.double (0 : UInt64))])) _
    refine XS.dstore X10.here hx rfl (hb hby at_141) rfl (l' := #[.val (.int p0), .val (.int p1), .val (.int p2), .val (.int p3), .val (.int p4), .val (.int (0 : Int32)), .val (.double (FP.i2d (p3 &&& (2147483647 : Int32)))), .second, .val (.double (FP.dadd (FP.i2d (p3 &&& (2147483647 : Int32))) (FP.i2d (p4 &&& (65535 : Int32))))), .second, .val .null, .val .null, .val (.ref b1), .val (.int (1 : Int32)), .val (.double (0 : UInt64)), .second, .val (.double (0 : UInt64)), .second]) rfl ?_
    show Steps p.tables e below (T10.setTop (mkF m 143 #[.val (.int p0), .val (.int p1), .val (.int p2), .val (.int p3), .val (.int p4), .val (.int (0 : Int32)), .val (.double (FP.i2d (p3 &&& (2147483647 : Int32)))), .second, .val (.double (FP.dadd (FP.i2d (p3 &&& (2147483647 : Int32))) (FP.i2d (p4 &&& (65535 : Int32))))), .second, .val .null, .val .null, .val (.ref b1), .val (.int (1 : Int32)), .val (.double (0 : UInt64)), .second, .val (.double (0 : UInt64)), .second] [])) _
    refine XS.iload X10.here hx rfl (hb hby at_143) rfl ?_
    show Steps p.tables e below (T10.setTop (mkF m 145 #[.val (.int p0), .val (.int p1), .val (.int p2), .val (.int p3), .val (.int p4), .val (.int (0 : Int32)), .val (.double (FP.i2d (p3 &&& (2147483647 : Int32)))), .second, .val (.double (FP.dadd (FP.i2d (p3 &&& (2147483647 : Int32))) (FP.i2d (p4 &&& (65535 : Int32))))), .second, .val .null, .val .null, .val (.ref b1), .val (.int (1 : Int32)), .val (.double (0 : UInt64)), .second, .val (.double (0 : UInt64)), .second] [(.int (1 : Int32))])) _
    refine XS.ifNo X10.here hx rfl (hb hby at_145) rfl ((if0 _ _).trans (feq (by decide : ¬ ((1 : Int32) = (0 : Int32)))).1) ?_
    show Steps p.tables e below (T10.setTop (mkF m 148 #[.val (.int p0), .val (.int p1), .val (.int p2), .val (.int p3), .val (.int p4), .val (.int (0 : Int32)), .val (.double (FP.i2d (p3 &&& (2147483647 : Int32)))), .second, .val (.double (FP.dadd (FP.i2d (p3 &&& (2147483647 : Int32))) (FP.i2d (p4 &&& (65535 : Int32))))), .second, .val .null, .val .null, .val (.ref b1), .val (.int (1 : Int32)), .val (.double (0 : UInt64)), .second, .val (.double (0 : UInt64)), .second] [])) _
    refine XS.dload X10.here hx rfl (hb hby at_148) rfl ?_
    show Steps p.tables e below (T10.setTop (mkF m 150 #[.val (.int p0), .val (.int p1), .val (.int p2), .val (.int p3), .val (.int p4), .val (.int (0 : Int32)), .val (.double (FP.i2d (p3 &&& (2147483647 : Int32)))), .second, .val (.double (FP.dadd (FP.i2d (p3 &&& (2147483647 : Int32))) (FP.i2d (p4 &&& (65535 : Int32))))), .second, .val .null, .val .null, .val (.ref b1), .val (.int (1 : Int32)), .val (.double (0 : UInt64)), .second, .val (.double (0 : UInt64)), .second] [(.double (0 : UInt64))])) _
    refine XS.dconst0 X10.here hx rfl (hb hby at_150) (v := (0 : UInt64)) rfl ?_
    show Steps p.tables e below (T10.setTop (mkF m 151 #[.val (.int p0), .val (.int p1), .val (.int p2), .val (.int p3), .val (.int p4), .val (.int (0 : Int32)), .val (.double (FP.i2d (p3 &&& (2147483647 : Int32)))), .second, .val (.double (FP.dadd (FP.i2d (p3 &&& (2147483647 : Int32))) (FP.i2d (p4 &&& (65535 : Int32))))), .second, .val .null, .val .null, .val (.ref b1), .val (.int (1 : Int32)), .val (.double (0 : UInt64)), .second, .val (.double (0 : UInt64)), .second] [(.double (0 : UInt64)), (.double (0 : UInt64))])) _
    refine XS.dcmpS X10.here hx rfl (hb hby at_151) rfl (v := (0 : Int32)) hd151 ?_
    show Steps p.tables e below (T10.setTop (mkF m 152 #[.val (.int p0), .val (.int p1), .val (.int p2), .val (.int p3), .val (.int p4), .val (.int (0 : Int32)), .val (.double (FP.i2d (p3 &&& (2147483647 : Int32)))), .second, .val (.double (FP.dadd (FP.i2d (p3 &&& (2147483647 : Int32))) (FP.i2d (p4 &&& (65535 : Int32))))), .second, .val .null, .val .null, .val (.ref b1), .val (.int (1 : Int32)), .val (.double (0 : UInt64)), .second, .val (.double (0 : UInt64)), .second] [(.int (0 : Int32))])) _
    refine XS.ifNo X10.here hx rfl (hb hby at_152) rfl ((if0 _ _).trans (teq (by decide : (0 : Int32) = (0 : Int32))).2) ?_
    show Steps p.tables e below (T10.setTop (mkF m 155 #[.val (.int p0), .val (.int p1), .val (.int p2), .val (.int p3), .val (.int p4), .val (.int (0 : Int32)), .val (.double (FP.i2d (p3 &&& (2147483647 : Int32)))), .second, .val (.double (FP.dadd (FP.i2d (p3 &&& (2147483647 : Int32))) (FP.i2d (p4 &&& (65535 : Int32))))), .second, .val .null, .val .null, .val (.ref b1), .val (.int (1 : Int32)), .val (.double (0 : UInt64)), .second, .val (.double (0 : UInt64)), .second] [])) _
    refine XS.dload X10.here hx rfl (hb hby at_155) rfl ?_
    show Steps p.tables e below (T10.setTop (mkF m 157 #[.val (.int p0), .val (.int p1), .val (.int p2), .val (.int p3), .val (.int p4), .val (.int (0 : Int32)), .val (.double (FP.i2d (p3 &&& (2147483647 : Int32)))), .second, .val (.double (FP.dadd (FP.i2d (p3 &&& (2147483647 : Int32))) (FP.i2d (p4 &&& (65535 : Int32))))), .second, .val .null, .val .null, .val (.ref b1), .val (.int (1 : Int32)), .val (.double (0 : UInt64)), .second, .val (.double (0 : UInt64)), .second] [(.double (0 : UInt64))])) _
    refine XS.dconst0 X10.here hx rfl (hb hby at_157) (v := (0 : UInt64)) rfl ?_
    show Steps p.tables e below (T10.setTop (mkF m 158 #[.val (.int p0), .val (.int p1), .val (.int p2), .val (.int p3), .val (.int p4), .val (.int (0 : Int32)), .val (.double (FP.i2d (p3 &&& (2147483647 : Int32)))), .second, .val (.double (FP.dadd (FP.i2d (p3 &&& (2147483647 : Int32))) (FP.i2d (p4 &&& (65535 : Int32))))), .second, .val .null, .val .null, .val (.ref b1), .val (.int (1 : Int32)), .val (.double (0 : UInt64)), .second, .val (.double (0 : UInt64)), .second] [(.double (0 : UInt64)), (.double (0 : UInt64))])) _
    refine XS.dcmpS X10.here hx rfl (hb hby at_158) rfl (v := (0 : Int32)) hd158 ?_
    show Steps p.tables e below (T10.setTop (mkF m 159 #[.val (.int p0), .val (.int p1), .val (.int p2), .val (.int p3), .val (.int p4), .val (.int (0 : Int32)), .val (.double (FP.i2d (p3 &&& (2147483647 : Int32)))), .second, .val (.double (FP.dadd (FP.i2d (p3 &&& (2147483647 : Int32))) (FP.i2d (p4 &&& (65535 : Int32))))), .second, .val .null, .val .null, .val (.ref b1), .val (.int (1 : Int32)), .val (.double (0 : UInt64)), .second, .val (.double (0 : UInt64)), .second] [(.int (0 : Int32))])) _
    refine XS.ifNo X10.here hx rfl (hb hby at_159) rfl ((if0 _ _).trans (teq (by decide : (0 : Int32) = (0 : Int32))).2) ?_
    show Steps p.tables e below (T10.setTop (mkF m 162 #[.val (.int p0), .val (.int p1), .val (.int p2), .val (.int p3), .val (.int p4), .val (.int (0 : Int32)), .val (.double (FP.i2d (p3 &&& (2147483647 : Int32)))), .second, .val (.double (FP.dadd (FP.i2d (p3 &&& (2147483647 : Int32))) (FP.i2d (p4 &&& (65535 : Int32))))), .second, .val .null, .val .null, .val (.ref b1), .val (.int (1 : Int32)), .val (.double (0 : UInt64)), .second, .val (.double (0 : UInt64)), .second] [])) _
    refine XS.iconst X10.here hx rfl (hb hby at_162) ?_
    show Steps p.tables e below (T10.setTop (mkF m 163 #[.val (.int p0), .val (.int p1), .val (.int p2), .val (.int p3), .val (.int p4), .val (.int (0 : Int32)), .val (.double (FP.i2d (p3 &&& (2147483647 : Int32)))), .second, .val (.double (FP.dadd (FP.i2d (p3 &&& (2147483647 : Int32))) (FP.i2d (p4 &&& (65535 : Int32))))), .second, .val .null, .val .null, .val (.ref b1), .val (.int (1 : Int32)), .val (.double (0 : UInt64)), .second, .val (.double (0 : UInt64)), .second] [(.int (1 : Int32))])) _
    refine XS.goto X10.here hx rfl (pc0 := 163) (pc' := 167) rfl (hb hby at_163) (by decide) (by decide) ?_
    show Steps p.tables e below (T10.setTop (mkF m 167 #[.val (.int p0), .val (.int p1), .val (.int p2), .val (.int p3), .val (.int p4), .val (.int (0 : Int32)), .val (.double (FP.i2d (p3 &&& (2147483647 : Int32)))), .second, .val (.double (FP.dadd (FP.i2d (p3 &&& (2147483647 : Int32))) (FP.i2d (p4 &&& (65535 : Int32))))), .second, .val .null, .val .null, .val (.ref b1), .val (.int (1 : Int32)), .val (.double (0 : UInt64)), .second, .val (.double (0 : UInt64)), .second] [(.int (1 : Int32))])) _
    exact retN X10 hx (t := .boolean) Bd.returns (by simp) (hb hby at_167) hr
  · show Q0 n0 _ T10.heap _
    rw [e10]
    exact ⟨rfl, N10⟩
set_option maxRecDepth 65536 in
set_option maxHeartbeats 40000000 in
theorem rm0_r0 (l : Launch) (Z : State) (a0 : Array Value) (hw : ∀ d ∈ tables_1, d.before a0 Z = true) (ws : List Jvm.Cond) (p0 : Int32) (p1 : Int32) (p2 : Int32) (p3 : Int32) (p4 : Int32) (h0 : Heap) (n0 : Nat) (Z0 : n0 ≤ h0.size) (hc3 : ¬ ((p0 &&& (1 : Int32)) = (0 : Int32))) (nn28 : Jvm.Free.Fl.NoNaN64 (FP.dadd (FP.i2d (p3 &&& (2147483647 : Int32))) (FP.i2d (p4 &&& (65535 : Int32))))) (hd171 : (cmpValue (FP.dcmp (FP.i2d (p1 ||| (1 : Int32))) (0 : UInt64)) .l) = (-1 : Int32)) :
    MetFree l x (head1 (Jvm.Cond.code x code maxLocals ret :: ws) room_1) (fun a U => a = #[(.int p0), (.int p1), (.int p2), (.int p3), (.int p4)] ∧ Z.Warmed39 U.vm ∧ U.heap = h0) (fun _ _ _ _ _ => True) (fun _ U o U' => ∃ v L, o = .returned v ∧ Q0 n0 v U'.heap L ∧ FrameEnd U o U' L room_1.cells room_1.slots) := by
  refine MetFree.of_bodySF (plainFor_of_name pn_com_example_odds_on_counters_oddsoncounters_numeric_JetIsConstantPinLaw) hisR ?_
  intro p e s m args below meth c s₁ Bd hml0 hP hK
  obtain ⟨rfl, hZ, hh⟩ := hP
  have hx := Bd.exec
  have hby := Bd.bytes
  have hml : c.maxLocals = 18 := hml0
  have hown : s.vm.findClass "com/example/odds_on_counters/oddsoncounters/numeric/JetIsConstantPinLaw" = some m.cls := findClass_of_methodNamed Bd.named
  have hnm := (name_of_methodNamed Bd.named Bd.method).1
  have X0 : Stand p l e room_1 s m #[(.int p0), (.int p1), (.int p2), (.int p3), (.int p4)] below meth c s₁ [] 0 0 := Stand.of_body Bd
  have e0 : s₁.heap = h0 := by rw [← hh, Bd.state]; rfl
  have N0 := Fr.nil n0
  have pre0 : ∀ t, Steps p.tables e below (s₁.setTop (mkF m 0 #[.val (.int p0), .val (.int p1), .val (.int p2), .val (.int p3), .val (.int p4), .unset, .unset, .unset, .unset, .unset, .unset, .unset, .unset, .unset, .unset, .unset, .unset, .unset] [])) t → Steps p.tables e below (s₁.setTop (entryFrame m #[(.int p0), (.int p1), (.int p2), (.int p3), (.int p4)] maxLocals)) t := fun t k => castTop (ef_0_IIIII m p0 p1 p2 p3 p4) k
  obtain ⟨T1, h1, k1, X1, e1, E1, A1, st1⟩ := newP X0 hx hZ (hw _ (List.mem_of_getElem? (i := 39) rfl)) e0 (g := (mkF m 43 #[.val (.int p0), .val (.int p1), .val (.int p2), .val (.int p3), .val (.int p4), .val (.int (1 : Int32)), .val (.double (FP.i2d (p3 &&& (2147483647 : Int32)))), .second, .val (.double (FP.dadd (FP.i2d (p3 &&& (2147483647 : Int32))) (FP.i2d (p4 &&& (65535 : Int32))))), .second, .val .null, .val .null, .unset, .unset, .unset, .unset, .unset, .unset] [(.int (1 : Int32))])) rfl (hb hby at_43) rfl (by decide) (cap := 1) (by decide) (by decide) (by decide) (by decide)
  obtain ⟨b1, g1⟩ : ∃ z, z = h0.size := ⟨_, rfl⟩
  rw [← g1] at A1 st1
  have g_b1 : n0 ≤ b1 := Nat.le_trans Z0 (Nat.le_of_eq g1.symm)
  have sz_b1 : h0.size ≤ b1 := Nat.le_trans (Keep.refl h0 []).1 (Nat.le_of_eq g1.symm)
  have K1 : Keep h0 h1 [] := (Keep.refl h0 []).ext E1
  have Zs1 := Nat.le_trans Z0 E1.1
  have V1 : Arv Z h1 b1 k1 .double (1 : Int32) [(.double (0 : UInt64))] (.double (0 : UInt64)) := (Arv.new A1 (by decide)).pad (pad_rep [] (.double (0 : UInt64)) 1)
  obtain ⟨cq2, Arq2, qq2, Sq2, Nq2, Hq2, Gq2⟩ := V1
  obtain ⟨T3, h3, X3, e3, W3, st3⟩ := stD X1 hx hZ e1 Arq2 (j := (0 : Int32)) (inb_of Sq2 ⟨by decide, by decide⟩) (g := (mkF m 51 #[.val (.int p0), .val (.int p1), .val (.int p2), .val (.int p3), .val (.int p4), .val (.int (1 : Int32)), .val (.double (FP.i2d (p3 &&& (2147483647 : Int32)))), .second, .val (.double (FP.dadd (FP.i2d (p3 &&& (2147483647 : Int32))) (FP.i2d (p4 &&& (65535 : Int32))))), .second, .val .null, .val .null, .unset, .unset, .unset, .unset, .unset, .unset] [(.double (FP.i2d (p1 ||| (1 : Int32)))), (.int (0 : Int32)), (.ref b1), (.ref b1)])) rfl rfl (hb hby at_51)
  have K3 : Keep h0 h3 [] := K1.wr W3 (Or.inr sz_b1)
  have Zs3 := Nat.le_trans Zs1 (Keep.of_wr W3).1
  have N3 := Fr.snoc X3 N0 g_b1
  have f4 : Arv Z h3 b1 k1 .double (1 : Int32) [(.double (FP.i2d (p1 ||| (1 : Int32))))] (.double (0 : UInt64)) := Arv.set Arq2 qq2 Sq2 Nq2 Hq2 Gq2 rfl W3 0 rfl (Nat.le_of_ble_eq_true rfl)
  obtain ⟨T5, h5, k5, X5, e5, E5, A5, st5⟩ := newP X3 hx hZ (hw _ (List.mem_of_getElem? (i := 39) rfl)) e3 (g := (mkF m 55 #[.val (.int p0), .val (.int p1), .val (.int p2), .val (.int p3), .val (.int p4), .val (.int (1 : Int32)), .val (.double (FP.i2d (p3 &&& (2147483647 : Int32)))), .second, .val (.double (FP.dadd (FP.i2d (p3 &&& (2147483647 : Int32))) (FP.i2d (p4 &&& (65535 : Int32))))), .second, .val (.ref b1), .val .null, .unset, .unset, .unset, .unset, .unset, .unset] [(.int (1 : Int32))])) rfl (hb hby at_55) rfl (by decide) (cap := 1) (by decide) (by decide) (by decide) (by decide)
  obtain ⟨b5, g5⟩ : ∃ z, z = h3.size := ⟨_, rfl⟩
  rw [← g5] at A5 st5
  have ne_b1_b5 : b1 ≠ b5 := Nat.ne_of_lt (Nat.lt_of_lt_of_le f4.lt (Nat.le_of_eq g5.symm))
  have g_b5 : n0 ≤ b5 := Nat.le_trans Zs3 (Nat.le_of_eq g5.symm)
  have sz_b5 : h0.size ≤ b5 := Nat.le_trans K3.1 (Nat.le_of_eq g5.symm)
  have f6 := f4.ext E5
  have K5 : Keep h0 h5 [] := K3.ext E5
  have Zs5 := Nat.le_trans Zs3 E5.1
  have V5 : Arv Z h5 b5 k5 .double (1 : Int32) [(.double (0 : UInt64))] (.double (0 : UInt64)) := (Arv.new A5 (by decide)).pad (pad_rep [] (.double (0 : UInt64)) 1)
  obtain ⟨cq7, Arq7, qq7, Sq7, Nq7, Hq7, Gq7⟩ := V5
  obtain ⟨T8, h8, X8, e8, W8, st8⟩ := stD X5 hx hZ e5 Arq7 (j := (0 : Int32)) (inb_of Sq7 ⟨by decide, by decide⟩) (g := (mkF m 63 #[.val (.int p0), .val (.int p1), .val (.int p2), .val (.int p3), .val (.int p4), .val (.int (1 : Int32)), .val (.double (FP.i2d (p3 &&& (2147483647 : Int32)))), .second, .val (.double (FP.dadd (FP.i2d (p3 &&& (2147483647 : Int32))) (FP.i2d (p4 &&& (65535 : Int32))))), .second, .val (.ref b1), .val .null, .unset, .unset, .unset, .unset, .unset, .unset] [(.double (FP.i2d (p2 ||| (1 : Int32)))), (.int (0 : Int32)), (.ref b5), (.ref b5)])) rfl rfl (hb hby at_63)
  have f9 := f6.other W8 ne_b1_b5
  have K8 : Keep h0 h8 [] := K5.wr W8 (Or.inr sz_b5)
  have Zs8 := Nat.le_trans Zs5 (Keep.of_wr W8).1
  have N8 := Fr.snoc X8 N3 g_b5
  have f10 : Arv Z h8 b5 k5 .double (1 : Int32) [(.double (FP.i2d (p2 ||| (1 : Int32))))] (.double (0 : UInt64)) := Arv.set Arq7 qq7 Sq7 Nq7 Hq7 Gq7 rfl W8 0 rfl (Nat.le_of_ble_eq_true rfl)
  obtain ⟨T11, h11, X11, e11, E11, A11, D11, -, st11⟩ := newO X8 hx hZ hown (hw _ (List.mem_of_getElem? (i := 2) rfl)) (hw _ (List.mem_of_getElem? (i := 3) rfl)) (hw _ (List.mem_of_getElem? (i := 4) rfl)) e8 (g := (mkF m 66 #[.val (.int p0), .val (.int p1), .val (.int p2), .val (.int p3), .val (.int p4), .val (.int (1 : Int32)), .val (.double (FP.i2d (p3 &&& (2147483647 : Int32)))), .second, .val (.double (FP.dadd (FP.i2d (p3 &&& (2147483647 : Int32))) (FP.i2d (p4 &&& (65535 : Int32))))), .second, .val (.ref b1), .val (.ref b5), .unset, .unset, .unset, .unset, .unset, .unset] [])) rfl (hb hby at_66) (by decide) (by decide)
  obtain ⟨b11, g11⟩ : ∃ z, z = h8.size := ⟨_, rfl⟩
  rw [← g11] at A11 D11 st11
  have ne_b1_b11 : b1 ≠ b11 := Nat.ne_of_lt (Nat.lt_of_lt_of_le f9.lt (Nat.le_of_eq g11.symm))
  have ne_b5_b11 : b5 ≠ b11 := Nat.ne_of_lt (Nat.lt_of_lt_of_le f10.lt (Nat.le_of_eq g11.symm))
  have g_b11 : n0 ≤ b11 := Nat.le_trans Zs8 (Nat.le_of_eq g11.symm)
  have sz_b11 : h0.size ≤ b11 := Nat.le_trans K8.1 (Nat.le_of_eq g11.symm)
  have f12 := f9.ext E11
  have f13 := f10.ext E11
  have K11 : Keep h0 h11 [] := K8.ext E11
  have Zs11 := Nat.le_trans Zs8 E11.1
  have F11_low : Fld Z h11 b11 "com/example/odds_on_counters/oddsoncounters/numeric/Jet" "low" "D" (.double (0 : UInt64)) := D11 (Or.inr (hw _ (List.mem_of_getElem? (i := 12) rfl))) (ty := .double) (by decide)
  have F11_high : Fld Z h11 b11 "com/example/odds_on_counters/oddsoncounters/numeric/Jet" "high" "D" (.double (0 : UInt64)) := D11 (Or.inr (hw _ (List.mem_of_getElem? (i := 14) rfl))) (ty := .double) (by decide)
  have F11_slopeLow : Fld Z h11 b11 "com/example/odds_on_counters/oddsoncounters/numeric/Jet" "slopeLow" "[D" .null := D11 (Or.inr (hw _ (List.mem_of_getElem? (i := 16) rfl))) (ty := (.array .double)) (by decide)
  have F11_slopeHigh : Fld Z h11 b11 "com/example/odds_on_counters/oddsoncounters/numeric/Jet" "slopeHigh" "[D" .null := D11 (Or.inr (hw _ (List.mem_of_getElem? (i := 18) rfl))) (ty := (.array .double)) (by decide)
  obtain ⟨_, _, ⟨T14, L14, k14, n14⟩, -, X14, ⟨Lc14, hQ14, l14, y14, z14⟩, st14⟩ := X11.specialBack hx (y := (⟨"com/example/odds_on_counters/oddsoncounters/numeric/Jet", "<init>", "(DD[D[D)V"⟩ : MethodName)) rfl hown (mvT hZ (hw _ (List.mem_of_getElem? (i := 5) rfl))) (mvT hZ (hw _ (List.mem_of_getElem? (i := 6) rfl))) (mvT hZ (hw _ (List.mem_of_getElem? (i := 7) rfl))) (by decide) (backOf (W := 1) (rm1r l Z a0 hw [] b11 (FP.i2d (p3 &&& (2147483647 : Int32))) (FP.dadd (FP.i2d (p3 &&& (2147483647 : Int32))) (FP.i2d (p4 &&& (65535 : Int32)))) b1 b5 h11 n0 Zs11 A11 F11_low F11_high F11_slopeLow F11_slopeHigh g_b11) hZ (hw _ (List.mem_of_getElem? (i := 7) rfl)) (hw _ (List.mem_of_getElem? (i := 4) rfl)) (by decide) (by decide)) (g := (mkF m 78 #[.val (.int p0), .val (.int p1), .val (.int p2), .val (.int p3), .val (.int p4), .val (.int (1 : Int32)), .val (.double (FP.i2d (p3 &&& (2147483647 : Int32)))), .second, .val (.double (FP.dadd (FP.i2d (p3 &&& (2147483647 : Int32))) (FP.i2d (p4 &&& (65535 : Int32))))), .second, .val (.ref b1), .val (.ref b5), .unset, .unset, .unset, .unset, .unset, .unset] [(.ref b5), (.ref b1), (.double (FP.dadd (FP.i2d (p3 &&& (2147483647 : Int32))) (FP.i2d (p4 &&& (65535 : Int32))))), (.double (FP.i2d (p3 &&& (2147483647 : Int32)))), (.ref b11), (.ref b11)])) rfl (by rw [hml]; rfl) (Steps.refl _) (a := b11) (argsL := [(.double (FP.i2d (p3 &&& (2147483647 : Int32)))), (.double (FP.dadd (FP.i2d (p3 &&& (2147483647 : Int32))) (FP.i2d (p4 &&& (65535 : Int32))))), (.ref b1), (.ref b5)]) (rest := [(.ref b11)]) (lenOf pd_0 rfl) rfl (by show 2 * 0 + _ ≤ _; exact Nat.le_of_eq rfl) (hb hby at_78) (fun _ _ => ⟨rfl, e11, (by decide : 3 + 0 ≤ _), (by decide : 6 + 0 ≤ _)⟩)
  dsimp only [Pt.U, Pt.locs, Pt.cells, Pt.slots] at X14 l14 y14 z14 st14 hQ14
  subst l14 y14 z14
  obtain ⟨rfl, N14q, K14q, f15, f16, f17⟩ := hQ14
  have N14 := Fr.app N8 N14q
  have f18 := f12.keep K14q (own_niS ne_b1_b11 own_ni0)
  have f19 := f13.keep K14q (own_niS ne_b5_b11 own_ni0)
  have f20 := A11.keep K14q
  have K14 : Keep h0 T14.heap [] := K11.trans K14q (own_allS (Or.inr sz_b11) own_all0)
  have Zs14 := Nat.le_trans Zs11 K14q.1
  obtain ⟨cq21, kq21, q21a, q21b, q21c⟩ := isOf hZ rfl f15
  obtain ⟨_, _, ⟨T21, L21, k21, n21⟩, -, X21, ⟨Lc21, hQ21, l21, y21, z21⟩, st21⟩ := X14.virtualBack hx (y := (⟨"com/example/odds_on_counters/oddsoncounters/numeric/Jet", "isConstant", "()Z"⟩ : MethodName)) (z := (⟨"com/example/odds_on_counters/oddsoncounters/numeric/Jet", "isConstant", "()Z"⟩ : MethodName)) hown (mvT hZ (hw _ (List.mem_of_getElem? (i := 19) rfl))) (mvT hZ (hw _ (List.mem_of_getElem? (i := 20) rfl))) (notFace_of_selects (args := #[]) (mvT hZ (hw _ (List.mem_of_getElem? (i := 22) rfl)))) (mvT hZ (hw _ (List.mem_of_getElem? (i := 22) rfl))) (mvT hZ (hw _ (List.mem_of_getElem? (i := 21) rfl))) (by decide) (backOf (W := 0) (rm3_r l Z a0 hw [] b11 b1 T14.heap n0 Zs14 f16) hZ (hw _ (List.mem_of_getElem? (i := 23) rfl)) (hw _ (List.mem_of_getElem? (i := 4) rfl)) (by decide) (by decide)) q21a q21c (g := (mkF m 85 #[.val (.int p0), .val (.int p1), .val (.int p2), .val (.int p3), .val (.int p4), .val (.int (1 : Int32)), .val (.double (FP.i2d (p3 &&& (2147483647 : Int32)))), .second, .val (.double (FP.dadd (FP.i2d (p3 &&& (2147483647 : Int32))) (FP.i2d (p4 &&& (65535 : Int32))))), .second, .val (.ref b1), .val (.ref b5), .val (.ref b11), .unset, .unset, .unset, .unset, .unset] [(.ref b11)])) rfl (by rw [hml]; rfl) (Steps.refl _) (argsL := []) (rest := []) (lenOf pd_1 rfl) rfl (by show 2 * 0 + _ ≤ _; exact Nat.le_of_eq rfl) (hb hby at_85) (fun _ _ => ⟨rfl, rfl, (by decide : 3 + 0 ≤ _), (by decide : 6 + 0 ≤ _)⟩)
  dsimp only [Pt.U, Pt.locs, Pt.cells, Pt.slots] at X21 l21 y21 z21 st21 hQ21
  subst l21 y21 z21
  obtain ⟨rfl, N21q, eh21⟩ := hQ21
  have N21 := Fr.app N14 N21q
  have e21 : T21.heap = T14.heap := eh21
  obtain ⟨cq22, kq22, q22a, q22b, q22c⟩ := isOf hZ e21 f15
  obtain ⟨_, _, ⟨T22, L22, k22, n22⟩, -, X22, ⟨Lc22, hQ22, l22, y22, z22⟩, st22⟩ := X21.virtualBack hx (y := (⟨"com/example/odds_on_counters/oddsoncounters/numeric/Jet", "slopeLows", "()[D"⟩ : MethodName)) (z := (⟨"com/example/odds_on_counters/oddsoncounters/numeric/Jet", "slopeLows", "()[D"⟩ : MethodName)) hown (mvT hZ (hw _ (List.mem_of_getElem? (i := 24) rfl))) (mvT hZ (hw _ (List.mem_of_getElem? (i := 25) rfl))) (notFace_of_selects (args := #[]) (mvT hZ (hw _ (List.mem_of_getElem? (i := 27) rfl)))) (mvT hZ (hw _ (List.mem_of_getElem? (i := 27) rfl))) (mvT hZ (hw _ (List.mem_of_getElem? (i := 26) rfl))) (by decide) (backOf (W := 1) (rm4_r l Z a0 hw [] b11 b1 T14.heap n0 Zs14 f16) hZ (hw _ (List.mem_of_getElem? (i := 28) rfl)) (hw _ (List.mem_of_getElem? (i := 4) rfl)) (by decide) (by decide)) q22a q22c (g := (mkF m 111 #[.val (.int p0), .val (.int p1), .val (.int p2), .val (.int p3), .val (.int p4), .val (.int (1 : Int32)), .val (.double (FP.i2d (p3 &&& (2147483647 : Int32)))), .second, .val (.double (FP.dadd (FP.i2d (p3 &&& (2147483647 : Int32))) (FP.i2d (p4 &&& (65535 : Int32))))), .second, .val (.ref b1), .val (.ref b5), .val (.ref b11), .val (.int (0 : Int32)), .unset, .unset, .unset, .unset] [(.ref b11), (.int (0 : Int32))])) rfl (by rw [hml]; rfl) (Steps.refl _) (argsL := []) (rest := [(.int (0 : Int32))]) (lenOf pd_2 rfl) rfl (by show 2 * 0 + _ ≤ _; exact Nat.le_of_eq rfl) (hb hby at_111) (fun _ _ => ⟨rfl, e21, (by decide : 3 + 0 ≤ _), (by decide : 6 + 0 ≤ _)⟩)
  dsimp only [Pt.U, Pt.locs, Pt.cells, Pt.slots] at X22 l22 y22 z22 st22 hQ22
  subst l22 y22 z22
  obtain ⟨rfl, N22q, eh22⟩ := hQ22
  have N22 := Fr.app N21 N22q
  have e22 : T22.heap = T14.heap := eh22
  obtain ⟨cq23, kq23, q23a, q23b, q23c⟩ := isOf hZ e22 f15
  obtain ⟨_, _, ⟨T23, L23, k23, n23⟩, -, X23, ⟨Lc23, hQ23, l23, y23, z23⟩, st23⟩ := X22.virtualBack hx (y := (⟨"com/example/odds_on_counters/oddsoncounters/numeric/Jet", "slopeLow", "(I)D"⟩ : MethodName)) (z := (⟨"com/example/odds_on_counters/oddsoncounters/numeric/Jet", "slopeLow", "(I)D"⟩ : MethodName)) hown (mvT hZ (hw _ (List.mem_of_getElem? (i := 29) rfl))) (mvT hZ (hw _ (List.mem_of_getElem? (i := 30) rfl))) (notFace_of_selects (args := #[]) (mvT hZ (hw _ (List.mem_of_getElem? (i := 32) rfl)))) (mvT hZ (hw _ (List.mem_of_getElem? (i := 32) rfl))) (mvT hZ (hw _ (List.mem_of_getElem? (i := 31) rfl))) (by decide) (backOf (W := 0) (rm5_0 l Z a0 hw [] b11 b1 k1 (FP.i2d (p1 ||| (1 : Int32))) T14.heap n0 Zs14 f16 f18) hZ (hw _ (List.mem_of_getElem? (i := 33) rfl)) (hw _ (List.mem_of_getElem? (i := 4) rfl)) (by decide) (by decide)) q23a q23c (g := (mkF m 130 #[.val (.int p0), .val (.int p1), .val (.int p2), .val (.int p3), .val (.int p4), .val (.int (1 : Int32)), .val (.double (FP.i2d (p3 &&& (2147483647 : Int32)))), .second, .val (.double (FP.dadd (FP.i2d (p3 &&& (2147483647 : Int32))) (FP.i2d (p4 &&& (65535 : Int32))))), .second, .val (.ref b1), .val (.ref b5), .val (.ref b11), .val (.int (0 : Int32)), .unset, .unset, .unset, .unset] [(.int (0 : Int32)), (.ref b11)])) rfl (by rw [hml]; rfl) (Steps.refl _) (argsL := [(.int (0 : Int32))]) (rest := []) (lenOf pd_3 rfl) rfl (by show 2 * 0 + _ ≤ _; exact Nat.le_of_eq rfl) (hb hby at_130) (fun _ _ => ⟨rfl, e22, (by decide : 3 + 0 ≤ _), (by decide : 6 + 0 ≤ _)⟩)
  dsimp only [Pt.U, Pt.locs, Pt.cells, Pt.slots] at X23 l23 y23 z23 st23 hQ23
  subst l23 y23 z23
  obtain ⟨rfl, N23q, eh23⟩ := hQ23
  have N23 := Fr.app N22 N23q
  have e23 : T23.heap = T14.heap := eh23
  obtain ⟨cq24, kq24, q24a, q24b, q24c⟩ := isOf hZ e23 f15
  obtain ⟨_, _, ⟨T24, L24, k24, n24⟩, -, X24, ⟨Lc24, hQ24, l24, y24, z24⟩, st24⟩ := X23.virtualBack hx (y := (⟨"com/example/odds_on_counters/oddsoncounters/numeric/Jet", "slopeHigh", "(I)D"⟩ : MethodName)) (z := (⟨"com/example/odds_on_counters/oddsoncounters/numeric/Jet", "slopeHigh", "(I)D"⟩ : MethodName)) hown (mvT hZ (hw _ (List.mem_of_getElem? (i := 34) rfl))) (mvT hZ (hw _ (List.mem_of_getElem? (i := 35) rfl))) (notFace_of_selects (args := #[]) (mvT hZ (hw _ (List.mem_of_getElem? (i := 37) rfl)))) (mvT hZ (hw _ (List.mem_of_getElem? (i := 37) rfl))) (mvT hZ (hw _ (List.mem_of_getElem? (i := 36) rfl))) (by decide) (backOf (W := 0) (rm6_0 l Z a0 hw [] b11 b5 k5 (FP.i2d (p2 ||| (1 : Int32))) T14.heap n0 Zs14 f17 f19) hZ (hw _ (List.mem_of_getElem? (i := 38) rfl)) (hw _ (List.mem_of_getElem? (i := 4) rfl)) (by decide) (by decide)) q24a q24c (g := (mkF m 138 #[.val (.int p0), .val (.int p1), .val (.int p2), .val (.int p3), .val (.int p4), .val (.int (1 : Int32)), .val (.double (FP.i2d (p3 &&& (2147483647 : Int32)))), .second, .val (.double (FP.dadd (FP.i2d (p3 &&& (2147483647 : Int32))) (FP.i2d (p4 &&& (65535 : Int32))))), .second, .val (.ref b1), .val (.ref b5), .val (.ref b11), .val (.int (0 : Int32)), .val (.double (FP.i2d (p1 ||| (1 : Int32)))), .second, .unset, .unset] [(.int (0 : Int32)), (.ref b11)])) rfl (by rw [hml]; rfl) (Steps.refl _) (argsL := [(.int (0 : Int32))]) (rest := []) (lenOf pd_3 rfl) rfl (by show 2 * 0 + _ ≤ _; exact Nat.le_of_eq rfl) (hb hby at_138) (fun _ _ => ⟨rfl, e23, (by decide : 3 + 0 ≤ _), (by decide : 6 + 0 ≤ _)⟩)
  dsimp only [Pt.U, Pt.locs, Pt.cells, Pt.slots] at X24 l24 y24 z24 st24 hQ24
  subst l24 y24 z24
  obtain ⟨rfl, N24q, eh24⟩ := hQ24
  have N24 := Fr.app N23 N24q
  have e24 : T24.heap = T14.heap := eh24
  obtain ⟨fs, hr, hrun, hended, hW, hsame⟩ := X24.leave (v := some (.int (1 : Int32))) (fun h => by rw [Bd.returns] at h; cases h)
  refine ⟨_, _, pre0 _ ?_, hrun, hended, _, _, rfl, ?_, ⟨_, rfl⟩, hW, hsame.mono (by decide) (by decide)⟩
  · show Steps p.tables e below (s₁.setTop (mkF m 0 #[.val (.int p0), .val (.int p1), .val (.int p2), .val (.int p3), .val (.int p4), .unset, .unset, .unset, .unset, .unset, .unset, .unset, .unset, .unset, .unset, .unset, .unset, .unset] [])) _
    refine XS.iloadN X0.here hx rfl (hb hby at_0) rfl ?_
    show Steps p.tables e below (s₁.setTop (mkF m 1 #[.val (.int p0), .val (.int p1), .val (.int p2), .val (.int p3), .val (.int p4), .unset, .unset, .unset, .unset, .unset, .unset, .unset, .unset, .unset, .unset, .unset, .unset, .unset] [(.int p0)])) _
    refine XS.iconst X0.here hx rfl (hb hby at_1) ?_
    show Steps p.tables e below (s₁.setTop (mkF m 2 #[.val (.int p0), .val (.int p1), .val (.int p2), .val (.int p3), .val (.int p4), .unset, .unset, .unset, .unset, .unset, .unset, .unset, .unset, .unset, .unset, .unset, .unset, .unset] [(.int (1 : Int32)), (.int p0)])) _
    refine XS.iand X0.here hx rfl (hb hby at_2) rfl ?_
    show Steps p.tables e below (s₁.setTop (mkF m 3 #[.val (.int p0), .val (.int p1), .val (.int p2), .val (.int p3), .val (.int p4), .unset, .unset, .unset, .unset, .unset, .unset, .unset, .unset, .unset, .unset, .unset, .unset, .unset] [(.int (p0 &&& (1 : Int32)))])) _
    refine XS.ifNo X0.here hx rfl (hb hby at_3) rfl ((if0 _ _).trans (feq hc3).1) ?_
    show Steps p.tables e below (s₁.setTop (mkF m 6 #[.val (.int p0), .val (.int p1), .val (.int p2), .val (.int p3), .val (.int p4), .unset, .unset, .unset, .unset, .unset, .unset, .unset, .unset, .unset, .unset, .unset, .unset, .unset] [])) _
    refine XS.iconst X0.here hx rfl (hb hby at_6) ?_
    show Steps p.tables e below (s₁.setTop (mkF m 7 #[.val (.int p0), .val (.int p1), .val (.int p2), .val (.int p3), .val (.int p4), .unset, .unset, .unset, .unset, .unset, .unset, .unset, .unset, .unset, .unset, .unset, .unset, .unset] [(.int (1 : Int32))])) _
    refine XS.goto X0.here hx rfl (pc0 := 7) (pc' := 11) rfl (hb hby at_7) (by decide) (by decide) ?_
    show Steps p.tables e below (s₁.setTop (mkF m 11 #[.val (.int p0), .val (.int p1), .val (.int p2), .val (.int p3), .val (.int p4), .unset, .unset, .unset, .unset, .unset, .unset, .unset, .unset, .unset, .unset, .unset, .unset, .unset] [(.int (1 : Int32))])) _
    refine XS.istore X0.here hx rfl (hb hby at_11) rfl (l' := #[.val (.int p0), .val (.int p1), .val (.int p2), .val (.int p3), .val (.int p4), .val (.int (1 : Int32)), .unset, .unset, .unset, .unset, .unset, .unset, .unset, .unset, .unset, .unset, .unset, .unset]) rfl ?_
    show Steps p.tables e below (s₁.setTop (mkF m 13 #[.val (.int p0), .val (.int p1), .val (.int p2), .val (.int p3), .val (.int p4), .val (.int (1 : Int32)), .unset, .unset, .unset, .unset, .unset, .unset, .unset, .unset, .unset, .unset, .unset, .unset] [])) _
    refine XS.iloadN X0.here hx rfl (hb hby at_13) rfl ?_
    show Steps p.tables e below (s₁.setTop (mkF m 14 #[.val (.int p0), .val (.int p1), .val (.int p2), .val (.int p3), .val (.int p4), .val (.int (1 : Int32)), .unset, .unset, .unset, .unset, .unset, .unset, .unset, .unset, .unset, .unset, .unset, .unset] [(.int p3)])) _
    refine X0.ldcInt hx hown (mvT hZ (hw _ (List.mem_of_getElem? (i := 0) rfl))) (g := (mkF m 14 #[.val (.int p0), .val (.int p1), .val (.int p2), .val (.int p3), .val (.int p4), .val (.int (1 : Int32)), .unset, .unset, .unset, .unset, .unset, .unset, .unset, .unset, .unset, .unset, .unset, .unset] [(.int p3)])) rfl (hb hby at_14) _ ?_
    show Steps p.tables e below (s₁.setTop (mkF m 16 #[.val (.int p0), .val (.int p1), .val (.int p2), .val (.int p3), .val (.int p4), .val (.int (1 : Int32)), .unset, .unset, .unset, .unset, .unset, .unset, .unset, .unset, .unset, .unset, .unset, .unset] [(.int (2147483647 : Int32)), (.int p3)])) _
    refine XS.iand X0.here hx rfl (hb hby at_16) rfl ?_
    show Steps p.tables e below (s₁.setTop (mkF m 17 #[.val (.int p0), .val (.int p1), .val (.int p2), .val (.int p3), .val (.int p4), .val (.int (1 : Int32)), .unset, .unset, .unset, .unset, .unset, .unset, .unset, .unset, .unset, .unset, .unset, .unset] [(.int (p3 &&& (2147483647 : Int32)))])) _
    refine XS.i2dS X0.here hx rfl (hb hby at_17) rfl (v := (FP.i2d (p3 &&& (2147483647 : Int32)))) rfl ?_
    show Steps p.tables e below (s₁.setTop (mkF m 18 #[.val (.int p0), .val (.int p1), .val (.int p2), .val (.int p3), .val (.int p4), .val (.int (1 : Int32)), .unset, .unset, .unset, .unset, .unset, .unset, .unset, .unset, .unset, .unset, .unset, .unset] [(.double (FP.i2d (p3 &&& (2147483647 : Int32))))])) _
    refine XS.dstore X0.here hx rfl (hb hby at_18) rfl (l' := #[.val (.int p0), .val (.int p1), .val (.int p2), .val (.int p3), .val (.int p4), .val (.int (1 : Int32)), .val (.double (FP.i2d (p3 &&& (2147483647 : Int32)))), .second, .unset, .unset, .unset, .unset, .unset, .unset, .unset, .unset, .unset, .unset]) rfl ?_
    show Steps p.tables e below (s₁.setTop (mkF m 20 #[.val (.int p0), .val (.int p1), .val (.int p2), .val (.int p3), .val (.int p4), .val (.int (1 : Int32)), .val (.double (FP.i2d (p3 &&& (2147483647 : Int32)))), .second, .unset, .unset, .unset, .unset, .unset, .unset, .unset, .unset, .unset, .unset] [])) _
    refine XS.dload X0.here hx rfl (hb hby at_20) rfl ?_
    show Steps p.tables e below (s₁.setTop (mkF m 22 #[.val (.int p0), .val (.int p1), .val (.int p2), .val (.int p3), .val (.int p4), .val (.int (1 : Int32)), .val (.double (FP.i2d (p3 &&& (2147483647 : Int32)))), .second, .unset, .unset, .unset, .unset, .unset, .unset, .unset, .unset, .unset, .unset] [(.double (FP.i2d (p3 &&& (2147483647 : Int32))))])) _
    refine XS.iload X0.here hx rfl (hb hby at_22) rfl ?_
    show Steps p.tables e below (s₁.setTop (mkF m 24 #[.val (.int p0), .val (.int p1), .val (.int p2), .val (.int p3), .val (.int p4), .val (.int (1 : Int32)), .val (.double (FP.i2d (p3 &&& (2147483647 : Int32)))), .second, .unset, .unset, .unset, .unset, .unset, .unset, .unset, .unset, .unset, .unset] [(.int p4), (.double (FP.i2d (p3 &&& (2147483647 : Int32))))])) _
    refine X0.ldcInt hx hown (mvT hZ (hw _ (List.mem_of_getElem? (i := 1) rfl))) (g := (mkF m 24 #[.val (.int p0), .val (.int p1), .val (.int p2), .val (.int p3), .val (.int p4), .val (.int (1 : Int32)), .val (.double (FP.i2d (p3 &&& (2147483647 : Int32)))), .second, .unset, .unset, .unset, .unset, .unset, .unset, .unset, .unset, .unset, .unset] [(.int p4), (.double (FP.i2d (p3 &&& (2147483647 : Int32))))])) rfl (hb hby at_24) _ ?_
    show Steps p.tables e below (s₁.setTop (mkF m 26 #[.val (.int p0), .val (.int p1), .val (.int p2), .val (.int p3), .val (.int p4), .val (.int (1 : Int32)), .val (.double (FP.i2d (p3 &&& (2147483647 : Int32)))), .second, .unset, .unset, .unset, .unset, .unset, .unset, .unset, .unset, .unset, .unset] [(.int (65535 : Int32)), (.int p4), (.double (FP.i2d (p3 &&& (2147483647 : Int32))))])) _
    refine XS.iand X0.here hx rfl (hb hby at_26) rfl ?_
    show Steps p.tables e below (s₁.setTop (mkF m 27 #[.val (.int p0), .val (.int p1), .val (.int p2), .val (.int p3), .val (.int p4), .val (.int (1 : Int32)), .val (.double (FP.i2d (p3 &&& (2147483647 : Int32)))), .second, .unset, .unset, .unset, .unset, .unset, .unset, .unset, .unset, .unset, .unset] [(.int (p4 &&& (65535 : Int32))), (.double (FP.i2d (p3 &&& (2147483647 : Int32))))])) _
    refine XS.i2dS X0.here hx rfl (hb hby at_27) rfl (v := (FP.i2d (p4 &&& (65535 : Int32)))) rfl ?_
    show Steps p.tables e below (s₁.setTop (mkF m 28 #[.val (.int p0), .val (.int p1), .val (.int p2), .val (.int p3), .val (.int p4), .val (.int (1 : Int32)), .val (.double (FP.i2d (p3 &&& (2147483647 : Int32)))), .second, .unset, .unset, .unset, .unset, .unset, .unset, .unset, .unset, .unset, .unset] [(.double (FP.i2d (p4 &&& (65535 : Int32)))), (.double (FP.i2d (p3 &&& (2147483647 : Int32))))])) _
    refine XS.daddS X0.here hx rfl (hb hby at_28) rfl nn28 (v := (FP.dadd (FP.i2d (p3 &&& (2147483647 : Int32))) (FP.i2d (p4 &&& (65535 : Int32))))) rfl ?_
    show Steps p.tables e below (s₁.setTop (mkF m 29 #[.val (.int p0), .val (.int p1), .val (.int p2), .val (.int p3), .val (.int p4), .val (.int (1 : Int32)), .val (.double (FP.i2d (p3 &&& (2147483647 : Int32)))), .second, .unset, .unset, .unset, .unset, .unset, .unset, .unset, .unset, .unset, .unset] [(.double (FP.dadd (FP.i2d (p3 &&& (2147483647 : Int32))) (FP.i2d (p4 &&& (65535 : Int32)))))])) _
    refine XS.dstore X0.here hx rfl (hb hby at_29) rfl (l' := #[.val (.int p0), .val (.int p1), .val (.int p2), .val (.int p3), .val (.int p4), .val (.int (1 : Int32)), .val (.double (FP.i2d (p3 &&& (2147483647 : Int32)))), .second, .val (.double (FP.dadd (FP.i2d (p3 &&& (2147483647 : Int32))) (FP.i2d (p4 &&& (65535 : Int32))))), .second, .unset, .unset, .unset, .unset, .unset, .unset, .unset, .unset]) rfl ?_
    show Steps p.tables e below (s₁.setTop (mkF m 31 #[.val (.int p0), .val (.int p1), .val (.int p2), .val (.int p3), .val (.int p4), .val (.int (1 : Int32)), .val (.double (FP.i2d (p3 &&& (2147483647 : Int32)))), .second, .val (.double (FP.dadd (FP.i2d (p3 &&& (2147483647 : Int32))) (FP.i2d (p4 &&& (65535 : Int32))))), .second, .unset, .unset, .unset, .unset, .unset, .unset, .unset, .unset] [])) _
    refine XS.aconstNull X0.here hx rfl (hb hby at_31) ?_
    show Steps p.tables e below (s₁.setTop (mkF m 32 #[.val (.int p0), .val (.int p1), .val (.int p2), .val (.int p3), .val (.int p4), .val (.int (1 : Int32)), .val (.double (FP.i2d (p3 &&& (2147483647 : Int32)))), .second, .val (.double (FP.dadd (FP.i2d (p3 &&& (2147483647 : Int32))) (FP.i2d (p4 &&& (65535 : Int32))))), .second, .unset, .unset, .unset, .unset, .unset, .unset, .unset, .unset] [.null])) _
    refine XS.astore X0.here hx rfl (hb hby at_32) rfl rfl (l' := #[.val (.int p0), .val (.int p1), .val (.int p2), .val (.int p3), .val (.int p4), .val (.int (1 : Int32)), .val (.double (FP.i2d (p3 &&& (2147483647 : Int32)))), .second, .val (.double (FP.dadd (FP.i2d (p3 &&& (2147483647 : Int32))) (FP.i2d (p4 &&& (65535 : Int32))))), .second, .val .null, .unset, .unset, .unset, .unset, .unset, .unset, .unset]) rfl ?_
    show Steps p.tables e below (s₁.setTop (mkF m 34 #[.val (.int p0), .val (.int p1), .val (.int p2), .val (.int p3), .val (.int p4), .val (.int (1 : Int32)), .val (.double (FP.i2d (p3 &&& (2147483647 : Int32)))), .second, .val (.double (FP.dadd (FP.i2d (p3 &&& (2147483647 : Int32))) (FP.i2d (p4 &&& (65535 : Int32))))), .second, .val .null, .unset, .unset, .unset, .unset, .unset, .unset, .unset] [])) _
    refine XS.aconstNull X0.here hx rfl (hb hby at_34) ?_
    show Steps p.tables e below (s₁.setTop (mkF m 35 #[.val (.int p0), .val (.int p1), .val (.int p2), .val (.int p3), .val (.int p4), .val (.int (1 : Int32)), .val (.double (FP.i2d (p3 &&& (2147483647 : Int32)))), .second, .val (.double (FP.dadd (FP.i2d (p3 &&& (2147483647 : Int32))) (FP.i2d (p4 &&& (65535 : Int32))))), .second, .val .null, .unset, .unset, .unset, .unset, .unset, .unset, .unset] [.null])) _
    refine XS.astore X0.here hx rfl (hb hby at_35) rfl rfl (l' := #[.val (.int p0), .val (.int p1), .val (.int p2), .val (.int p3), .val (.int p4), .val (.int (1 : Int32)), .val (.double (FP.i2d (p3 &&& (2147483647 : Int32)))), .second, .val (.double (FP.dadd (FP.i2d (p3 &&& (2147483647 : Int32))) (FP.i2d (p4 &&& (65535 : Int32))))), .second, .val .null, .val .null, .unset, .unset, .unset, .unset, .unset, .unset]) rfl ?_
    show Steps p.tables e below (s₁.setTop (mkF m 37 #[.val (.int p0), .val (.int p1), .val (.int p2), .val (.int p3), .val (.int p4), .val (.int (1 : Int32)), .val (.double (FP.i2d (p3 &&& (2147483647 : Int32)))), .second, .val (.double (FP.dadd (FP.i2d (p3 &&& (2147483647 : Int32))) (FP.i2d (p4 &&& (65535 : Int32))))), .second, .val .null, .val .null, .unset, .unset, .unset, .unset, .unset, .unset] [])) _
    refine XS.iload X0.here hx rfl (hb hby at_37) rfl ?_
    show Steps p.tables e below (s₁.setTop (mkF m 39 #[.val (.int p0), .val (.int p1), .val (.int p2), .val (.int p3), .val (.int p4), .val (.int (1 : Int32)), .val (.double (FP.i2d (p3 &&& (2147483647 : Int32)))), .second, .val (.double (FP.dadd (FP.i2d (p3 &&& (2147483647 : Int32))) (FP.i2d (p4 &&& (65535 : Int32))))), .second, .val .null, .val .null, .unset, .unset, .unset, .unset, .unset, .unset] [(.int (1 : Int32))])) _
    refine XS.ifNo X0.here hx rfl (hb hby at_39) rfl ((if0 _ _).trans (feq (by decide : ¬ ((1 : Int32) = (0 : Int32)))).1) ?_
    show Steps p.tables e below (s₁.setTop (mkF m 42 #[.val (.int p0), .val (.int p1), .val (.int p2), .val (.int p3), .val (.int p4), .val (.int (1 : Int32)), .val (.double (FP.i2d (p3 &&& (2147483647 : Int32)))), .second, .val (.double (FP.dadd (FP.i2d (p3 &&& (2147483647 : Int32))) (FP.i2d (p4 &&& (65535 : Int32))))), .second, .val .null, .val .null, .unset, .unset, .unset, .unset, .unset, .unset] [])) _
    refine XS.iconst X0.here hx rfl (hb hby at_42) ?_
    show Steps p.tables e below (s₁.setTop (mkF m 43 #[.val (.int p0), .val (.int p1), .val (.int p2), .val (.int p3), .val (.int p4), .val (.int (1 : Int32)), .val (.double (FP.i2d (p3 &&& (2147483647 : Int32)))), .second, .val (.double (FP.dadd (FP.i2d (p3 &&& (2147483647 : Int32))) (FP.i2d (p4 &&& (65535 : Int32))))), .second, .val .null, .val .null, .unset, .unset, .unset, .unset, .unset, .unset] [(.int (1 : Int32))])) _
    refine st1 _ ?_
    show Steps p.tables e below (T1.setTop (mkF m 45 #[.val (.int p0), .val (.int p1), .val (.int p2), .val (.int p3), .val (.int p4), .val (.int (1 : Int32)), .val (.double (FP.i2d (p3 &&& (2147483647 : Int32)))), .second, .val (.double (FP.dadd (FP.i2d (p3 &&& (2147483647 : Int32))) (FP.i2d (p4 &&& (65535 : Int32))))), .second, .val .null, .val .null, .unset, .unset, .unset, .unset, .unset, .unset] [(.ref b1)])) _
    refine XS.dup X1.here hx rfl (hb hby at_45) rfl rfl ?_
    show Steps p.tables e below (T1.setTop (mkF m 46 #[.val (.int p0), .val (.int p1), .val (.int p2), .val (.int p3), .val (.int p4), .val (.int (1 : Int32)), .val (.double (FP.i2d (p3 &&& (2147483647 : Int32)))), .second, .val (.double (FP.dadd (FP.i2d (p3 &&& (2147483647 : Int32))) (FP.i2d (p4 &&& (65535 : Int32))))), .second, .val .null, .val .null, .unset, .unset, .unset, .unset, .unset, .unset] [(.ref b1), (.ref b1)])) _
    refine XS.iconst X1.here hx rfl (hb hby at_46) ?_
    show Steps p.tables e below (T1.setTop (mkF m 47 #[.val (.int p0), .val (.int p1), .val (.int p2), .val (.int p3), .val (.int p4), .val (.int (1 : Int32)), .val (.double (FP.i2d (p3 &&& (2147483647 : Int32)))), .second, .val (.double (FP.dadd (FP.i2d (p3 &&& (2147483647 : Int32))) (FP.i2d (p4 &&& (65535 : Int32))))), .second, .val .null, .val .null, .unset, .unset, .unset, .unset, .unset, .unset] [(.int (0 : Int32)), (.ref b1), (.ref b1)])) _
    refine XS.iloadN X1.here hx rfl (hb hby at_47) rfl ?_
    show Steps p.tables e below (T1.setTop (mkF m 48 #[.val (.int p0), .val (.int p1), .val (.int p2), .val (.int p3), .val (.int p4), .val (.int (1 : Int32)), .val (.double (FP.i2d (p3 &&& (2147483647 : Int32)))), .second, .val (.double (FP.dadd (FP.i2d (p3 &&& (2147483647 : Int32))) (FP.i2d (p4 &&& (65535 : Int32))))), .second, .val .null, .val .null, .unset, .unset, .unset, .unset, .unset, .unset] [(.int p1), (.int (0 : Int32)), (.ref b1), (.ref b1)])) _
    refine XS.iconst X1.here hx rfl (hb hby at_48) ?_
    show Steps p.tables e below (T1.setTop (mkF m 49 #[.val (.int p0), .val (.int p1), .val (.int p2), .val (.int p3), .val (.int p4), .val (.int (1 : Int32)), .val (.double (FP.i2d (p3 &&& (2147483647 : Int32)))), .second, .val (.double (FP.dadd (FP.i2d (p3 &&& (2147483647 : Int32))) (FP.i2d (p4 &&& (65535 : Int32))))), .second, .val .null, .val .null, .unset, .unset, .unset, .unset, .unset, .unset] [(.int (1 : Int32)), (.int p1), (.int (0 : Int32)), (.ref b1), (.ref b1)])) _
    refine XS.ior X1.here hx rfl (hb hby at_49) rfl ?_
    show Steps p.tables e below (T1.setTop (mkF m 50 #[.val (.int p0), .val (.int p1), .val (.int p2), .val (.int p3), .val (.int p4), .val (.int (1 : Int32)), .val (.double (FP.i2d (p3 &&& (2147483647 : Int32)))), .second, .val (.double (FP.dadd (FP.i2d (p3 &&& (2147483647 : Int32))) (FP.i2d (p4 &&& (65535 : Int32))))), .second, .val .null, .val .null, .unset, .unset, .unset, .unset, .unset, .unset] [(.int (p1 ||| (1 : Int32))), (.int (0 : Int32)), (.ref b1), (.ref b1)])) _
    refine XS.i2dS X1.here hx rfl (hb hby at_50) rfl (v := (FP.i2d (p1 ||| (1 : Int32)))) rfl ?_
    show Steps p.tables e below (T1.setTop (mkF m 51 #[.val (.int p0), .val (.int p1), .val (.int p2), .val (.int p3), .val (.int p4), .val (.int (1 : Int32)), .val (.double (FP.i2d (p3 &&& (2147483647 : Int32)))), .second, .val (.double (FP.dadd (FP.i2d (p3 &&& (2147483647 : Int32))) (FP.i2d (p4 &&& (65535 : Int32))))), .second, .val .null, .val .null, .unset, .unset, .unset, .unset, .unset, .unset] [(.double (FP.i2d (p1 ||| (1 : Int32)))), (.int (0 : Int32)), (.ref b1), (.ref b1)])) _
    refine st3 _ ?_
    show Steps p.tables e below (T3.setTop (mkF m 52 #[.val (.int p0), .val (.int p1), .val (.int p2), .val (.int p3), .val (.int p4), .val (.int (1 : Int32)), .val (.double (FP.i2d (p3 &&& (2147483647 : Int32)))), .second, .val (.double (FP.dadd (FP.i2d (p3 &&& (2147483647 : Int32))) (FP.i2d (p4 &&& (65535 : Int32))))), .second, .val .null, .val .null, .unset, .unset, .unset, .unset, .unset, .unset] [(.ref b1)])) _
    refine XS.astore X3.here hx rfl (hb hby at_52) rfl rfl (l' := #[.val (.int p0), .val (.int p1), .val (.int p2), .val (.int p3), .val (.int p4), .val (.int (1 : Int32)), .val (.double (FP.i2d (p3 &&& (2147483647 : Int32)))), .second, .val (.double (FP.dadd (FP.i2d (p3 &&& (2147483647 : Int32))) (FP.i2d (p4 &&& (65535 : Int32))))), .second, .val (.ref b1), .val .null, .unset, .unset, .unset, .unset, .unset, .unset]) rfl ?_
    show Steps p.tables e below (T3.setTop (mkF m 54 #[.val (.int p0), .val (.int p1), .val (.int p2), .val (.int p3), .val (.int p4), .val (.int (1 : Int32)), .val (.double (FP.i2d (p3 &&& (2147483647 : Int32)))), .second, .val (.double (FP.dadd (FP.i2d (p3 &&& (2147483647 : Int32))) (FP.i2d (p4 &&& (65535 : Int32))))), .second, .val (.ref b1), .val .null, .unset, .unset, .unset, .unset, .unset, .unset] [])) _
    refine XS.iconst X3.here hx rfl (hb hby at_54) ?_
    show Steps p.tables e below (T3.setTop (mkF m 55 #[.val (.int p0), .val (.int p1), .val (.int p2), .val (.int p3), .val (.int p4), .val (.int (1 : Int32)), .val (.double (FP.i2d (p3 &&& (2147483647 : Int32)))), .second, .val (.double (FP.dadd (FP.i2d (p3 &&& (2147483647 : Int32))) (FP.i2d (p4 &&& (65535 : Int32))))), .second, .val (.ref b1), .val .null, .unset, .unset, .unset, .unset, .unset, .unset] [(.int (1 : Int32))])) _
    refine st5 _ ?_
    show Steps p.tables e below (T5.setTop (mkF m 57 #[.val (.int p0), .val (.int p1), .val (.int p2), .val (.int p3), .val (.int p4), .val (.int (1 : Int32)), .val (.double (FP.i2d (p3 &&& (2147483647 : Int32)))), .second, .val (.double (FP.dadd (FP.i2d (p3 &&& (2147483647 : Int32))) (FP.i2d (p4 &&& (65535 : Int32))))), .second, .val (.ref b1), .val .null, .unset, .unset, .unset, .unset, .unset, .unset] [(.ref b5)])) _
    refine XS.dup X5.here hx rfl (hb hby at_57) rfl rfl ?_
    show Steps p.tables e below (T5.setTop (mkF m 58 #[.val (.int p0), .val (.int p1), .val (.int p2), .val (.int p3), .val (.int p4), .val (.int (1 : Int32)), .val (.double (FP.i2d (p3 &&& (2147483647 : Int32)))), .second, .val (.double (FP.dadd (FP.i2d (p3 &&& (2147483647 : Int32))) (FP.i2d (p4 &&& (65535 : Int32))))), .second, .val (.ref b1), .val .null, .unset, .unset, .unset, .unset, .unset, .unset] [(.ref b5), (.ref b5)])) _
    refine XS.iconst X5.here hx rfl (hb hby at_58) ?_
    show Steps p.tables e below (T5.setTop (mkF m 59 #[.val (.int p0), .val (.int p1), .val (.int p2), .val (.int p3), .val (.int p4), .val (.int (1 : Int32)), .val (.double (FP.i2d (p3 &&& (2147483647 : Int32)))), .second, .val (.double (FP.dadd (FP.i2d (p3 &&& (2147483647 : Int32))) (FP.i2d (p4 &&& (65535 : Int32))))), .second, .val (.ref b1), .val .null, .unset, .unset, .unset, .unset, .unset, .unset] [(.int (0 : Int32)), (.ref b5), (.ref b5)])) _
    refine XS.iloadN X5.here hx rfl (hb hby at_59) rfl ?_
    show Steps p.tables e below (T5.setTop (mkF m 60 #[.val (.int p0), .val (.int p1), .val (.int p2), .val (.int p3), .val (.int p4), .val (.int (1 : Int32)), .val (.double (FP.i2d (p3 &&& (2147483647 : Int32)))), .second, .val (.double (FP.dadd (FP.i2d (p3 &&& (2147483647 : Int32))) (FP.i2d (p4 &&& (65535 : Int32))))), .second, .val (.ref b1), .val .null, .unset, .unset, .unset, .unset, .unset, .unset] [(.int p2), (.int (0 : Int32)), (.ref b5), (.ref b5)])) _
    refine XS.iconst X5.here hx rfl (hb hby at_60) ?_
    show Steps p.tables e below (T5.setTop (mkF m 61 #[.val (.int p0), .val (.int p1), .val (.int p2), .val (.int p3), .val (.int p4), .val (.int (1 : Int32)), .val (.double (FP.i2d (p3 &&& (2147483647 : Int32)))), .second, .val (.double (FP.dadd (FP.i2d (p3 &&& (2147483647 : Int32))) (FP.i2d (p4 &&& (65535 : Int32))))), .second, .val (.ref b1), .val .null, .unset, .unset, .unset, .unset, .unset, .unset] [(.int (1 : Int32)), (.int p2), (.int (0 : Int32)), (.ref b5), (.ref b5)])) _
    refine XS.ior X5.here hx rfl (hb hby at_61) rfl ?_
    show Steps p.tables e below (T5.setTop (mkF m 62 #[.val (.int p0), .val (.int p1), .val (.int p2), .val (.int p3), .val (.int p4), .val (.int (1 : Int32)), .val (.double (FP.i2d (p3 &&& (2147483647 : Int32)))), .second, .val (.double (FP.dadd (FP.i2d (p3 &&& (2147483647 : Int32))) (FP.i2d (p4 &&& (65535 : Int32))))), .second, .val (.ref b1), .val .null, .unset, .unset, .unset, .unset, .unset, .unset] [(.int (p2 ||| (1 : Int32))), (.int (0 : Int32)), (.ref b5), (.ref b5)])) _
    refine XS.i2dS X5.here hx rfl (hb hby at_62) rfl (v := (FP.i2d (p2 ||| (1 : Int32)))) rfl ?_
    show Steps p.tables e below (T5.setTop (mkF m 63 #[.val (.int p0), .val (.int p1), .val (.int p2), .val (.int p3), .val (.int p4), .val (.int (1 : Int32)), .val (.double (FP.i2d (p3 &&& (2147483647 : Int32)))), .second, .val (.double (FP.dadd (FP.i2d (p3 &&& (2147483647 : Int32))) (FP.i2d (p4 &&& (65535 : Int32))))), .second, .val (.ref b1), .val .null, .unset, .unset, .unset, .unset, .unset, .unset] [(.double (FP.i2d (p2 ||| (1 : Int32)))), (.int (0 : Int32)), (.ref b5), (.ref b5)])) _
    refine st8 _ ?_
    show Steps p.tables e below (T8.setTop (mkF m 64 #[.val (.int p0), .val (.int p1), .val (.int p2), .val (.int p3), .val (.int p4), .val (.int (1 : Int32)), .val (.double (FP.i2d (p3 &&& (2147483647 : Int32)))), .second, .val (.double (FP.dadd (FP.i2d (p3 &&& (2147483647 : Int32))) (FP.i2d (p4 &&& (65535 : Int32))))), .second, .val (.ref b1), .val .null, .unset, .unset, .unset, .unset, .unset, .unset] [(.ref b5)])) _
    refine XS.astore X8.here hx rfl (hb hby at_64) rfl rfl (l' := #[.val (.int p0), .val (.int p1), .val (.int p2), .val (.int p3), .val (.int p4), .val (.int (1 : Int32)), .val (.double (FP.i2d (p3 &&& (2147483647 : Int32)))), .second, .val (.double (FP.dadd (FP.i2d (p3 &&& (2147483647 : Int32))) (FP.i2d (p4 &&& (65535 : Int32))))), .second, .val (.ref b1), .val (.ref b5), .unset, .unset, .unset, .unset, .unset, .unset]) rfl ?_
    show Steps p.tables e below (T8.setTop (mkF m 66 #[.val (.int p0), .val (.int p1), .val (.int p2), .val (.int p3), .val (.int p4), .val (.int (1 : Int32)), .val (.double (FP.i2d (p3 &&& (2147483647 : Int32)))), .second, .val (.double (FP.dadd (FP.i2d (p3 &&& (2147483647 : Int32))) (FP.i2d (p4 &&& (65535 : Int32))))), .second, .val (.ref b1), .val (.ref b5), .unset, .unset, .unset, .unset, .unset, .unset] [])) _
    refine st11 _ ?_
    show Steps p.tables e below (T11.setTop (mkF m 69 #[.val (.int p0), .val (.int p1), .val (.int p2), .val (.int p3), .val (.int p4), .val (.int (1 : Int32)), .val (.double (FP.i2d (p3 &&& (2147483647 : Int32)))), .second, .val (.double (FP.dadd (FP.i2d (p3 &&& (2147483647 : Int32))) (FP.i2d (p4 &&& (65535 : Int32))))), .second, .val (.ref b1), .val (.ref b5), .unset, .unset, .unset, .unset, .unset, .unset] [(.ref b11)])) _
    refine XS.dup X11.here hx rfl (hb hby at_69) rfl rfl ?_
    show Steps p.tables e below (T11.setTop (mkF m 70 #[.val (.int p0), .val (.int p1), .val (.int p2), .val (.int p3), .val (.int p4), .val (.int (1 : Int32)), .val (.double (FP.i2d (p3 &&& (2147483647 : Int32)))), .second, .val (.double (FP.dadd (FP.i2d (p3 &&& (2147483647 : Int32))) (FP.i2d (p4 &&& (65535 : Int32))))), .second, .val (.ref b1), .val (.ref b5), .unset, .unset, .unset, .unset, .unset, .unset] [(.ref b11), (.ref b11)])) _
    refine XS.dload X11.here hx rfl (hb hby at_70) rfl ?_
    show Steps p.tables e below (T11.setTop (mkF m 72 #[.val (.int p0), .val (.int p1), .val (.int p2), .val (.int p3), .val (.int p4), .val (.int (1 : Int32)), .val (.double (FP.i2d (p3 &&& (2147483647 : Int32)))), .second, .val (.double (FP.dadd (FP.i2d (p3 &&& (2147483647 : Int32))) (FP.i2d (p4 &&& (65535 : Int32))))), .second, .val (.ref b1), .val (.ref b5), .unset, .unset, .unset, .unset, .unset, .unset] [(.double (FP.i2d (p3 &&& (2147483647 : Int32)))), (.ref b11), (.ref b11)])) _
    refine XS.dload X11.here hx rfl (hb hby at_72) rfl ?_
    show Steps p.tables e below (T11.setTop (mkF m 74 #[.val (.int p0), .val (.int p1), .val (.int p2), .val (.int p3), .val (.int p4), .val (.int (1 : Int32)), .val (.double (FP.i2d (p3 &&& (2147483647 : Int32)))), .second, .val (.double (FP.dadd (FP.i2d (p3 &&& (2147483647 : Int32))) (FP.i2d (p4 &&& (65535 : Int32))))), .second, .val (.ref b1), .val (.ref b5), .unset, .unset, .unset, .unset, .unset, .unset] [(.double (FP.dadd (FP.i2d (p3 &&& (2147483647 : Int32))) (FP.i2d (p4 &&& (65535 : Int32))))), (.double (FP.i2d (p3 &&& (2147483647 : Int32)))), (.ref b11), (.ref b11)])) _
    refine XS.aload X11.here hx rfl (hb hby at_74) rfl rfl ?_
    show Steps p.tables e below (T11.setTop (mkF m 76 #[.val (.int p0), .val (.int p1), .val (.int p2), .val (.int p3), .val (.int p4), .val (.int (1 : Int32)), .val (.double (FP.i2d (p3 &&& (2147483647 : Int32)))), .second, .val (.double (FP.dadd (FP.i2d (p3 &&& (2147483647 : Int32))) (FP.i2d (p4 &&& (65535 : Int32))))), .second, .val (.ref b1), .val (.ref b5), .unset, .unset, .unset, .unset, .unset, .unset] [(.ref b1), (.double (FP.dadd (FP.i2d (p3 &&& (2147483647 : Int32))) (FP.i2d (p4 &&& (65535 : Int32))))), (.double (FP.i2d (p3 &&& (2147483647 : Int32)))), (.ref b11), (.ref b11)])) _
    refine XS.aload X11.here hx rfl (hb hby at_76) rfl rfl ?_
    show Steps p.tables e below (T11.setTop (mkF m 78 #[.val (.int p0), .val (.int p1), .val (.int p2), .val (.int p3), .val (.int p4), .val (.int (1 : Int32)), .val (.double (FP.i2d (p3 &&& (2147483647 : Int32)))), .second, .val (.double (FP.dadd (FP.i2d (p3 &&& (2147483647 : Int32))) (FP.i2d (p4 &&& (65535 : Int32))))), .second, .val (.ref b1), .val (.ref b5), .unset, .unset, .unset, .unset, .unset, .unset] [(.ref b5), (.ref b1), (.double (FP.dadd (FP.i2d (p3 &&& (2147483647 : Int32))) (FP.i2d (p4 &&& (65535 : Int32))))), (.double (FP.i2d (p3 &&& (2147483647 : Int32)))), (.ref b11), (.ref b11)])) _
    refine st14.trans ?_
    show Steps p.tables e below (T14.setTop (mkF m 81 #[.val (.int p0), .val (.int p1), .val (.int p2), .val (.int p3), .val (.int p4), .val (.int (1 : Int32)), .val (.double (FP.i2d (p3 &&& (2147483647 : Int32)))), .second, .val (.double (FP.dadd (FP.i2d (p3 &&& (2147483647 : Int32))) (FP.i2d (p4 &&& (65535 : Int32))))), .second, .val (.ref b1), .val (.ref b5), .unset, .unset, .unset, .unset, .unset, .unset] [(.ref b11)])) _
    refine XS.astore X14.here hx rfl (hb hby at_81) rfl rfl (l' := #[.val (.int p0), .val (.int p1), .val (.int p2), .val (.int p3), .val (.int p4), .val (.int (1 : Int32)), .val (.double (FP.i2d (p3 &&& (2147483647 : Int32)))), .second, .val (.double (FP.dadd (FP.i2d (p3 &&& (2147483647 : Int32))) (FP.i2d (p4 &&& (65535 : Int32))))), .second, .val (.ref b1), .val (.ref b5), .val (.ref b11), .unset, .unset, .unset, .unset, .unset]) rfl ?_
    show Steps p.tables e below (T14.setTop (mkF m 83 #[.val (.int p0), .val (.int p1), .val (.int p2), .val (.int p3), .val (.int p4), .val (.int (1 : Int32)), .val (.double (FP.i2d (p3 &&& (2147483647 : Int32)))), .second, .val (.double (FP.dadd (FP.i2d (p3 &&& (2147483647 : Int32))) (FP.i2d (p4 &&& (65535 : Int32))))), .second, .val (.ref b1), .val (.ref b5), .val (.ref b11), .unset, .unset, .unset, .unset, .unset] [])) _
    refine XS.aload X14.here hx rfl (hb hby at_83) rfl rfl ?_
    show Steps p.tables e below (T14.setTop (mkF m 85 #[.val (.int p0), .val (.int p1), .val (.int p2), .val (.int p3), .val (.int p4), .val (.int (1 : Int32)), .val (.double (FP.i2d (p3 &&& (2147483647 : Int32)))), .second, .val (.double (FP.dadd (FP.i2d (p3 &&& (2147483647 : Int32))) (FP.i2d (p4 &&& (65535 : Int32))))), .second, .val (.ref b1), .val (.ref b5), .val (.ref b11), .unset, .unset, .unset, .unset, .unset] [(.ref b11)])) _
    refine st21.trans ?_
    show Steps p.tables e below (T21.setTop (mkF m 88 #[.val (.int p0), .val (.int p1), .val (.int p2), .val (.int p3), .val (.int p4), .val (.int (1 : Int32)), .val (.double (FP.i2d (p3 &&& (2147483647 : Int32)))), .second, .val (.double (FP.dadd (FP.i2d (p3 &&& (2147483647 : Int32))) (FP.i2d (p4 &&& (65535 : Int32))))), .second, .val (.ref b1), .val (.ref b5), .val (.ref b11), .unset, .unset, .unset, .unset, .unset] [(.int (0 : Int32))])) _
    refine XS.istore X21.here hx rfl (hb hby at_88) rfl (l' := #[.val (.int p0), .val (.int p1), .val (.int p2), .val (.int p3), .val (.int p4), .val (.int (1 : Int32)), .val (.double (FP.i2d (p3 &&& (2147483647 : Int32)))), .second, .val (.double (FP.dadd (FP.i2d (p3 &&& (2147483647 : Int32))) (FP.i2d (p4 &&& (65535 : Int32))))), .second, .val (.ref b1), .val (.ref b5), .val (.ref b11), .val (.int (0 : Int32)), .unset, .unset, .unset, .unset]) rfl ?_
    show Steps p.tables e below (T21.setTop (mkF m 90 #[.val (.int p0), .val (.int p1), .val (.int p2), .val (.int p3), .val (.int p4), .val (.int (1 : Int32)), .val (.double (FP.i2d (p3 &&& (2147483647 : Int32)))), .second, .val (.double (FP.dadd (FP.i2d (p3 &&& (2147483647 : Int32))) (FP.i2d (p4 &&& (65535 : Int32))))), .second, .val (.ref b1), .val (.ref b5), .val (.ref b11), .val (.int (0 : Int32)), .unset, .unset, .unset, .unset] [])) _
    refine XS.iload X21.here hx rfl (hb hby at_90) rfl ?_
    show Steps p.tables e below (T21.setTop (mkF m 92 #[.val (.int p0), .val (.int p1), .val (.int p2), .val (.int p3), .val (.int p4), .val (.int (1 : Int32)), .val (.double (FP.i2d (p3 &&& (2147483647 : Int32)))), .second, .val (.double (FP.dadd (FP.i2d (p3 &&& (2147483647 : Int32))) (FP.i2d (p4 &&& (65535 : Int32))))), .second, .val (.ref b1), .val (.ref b5), .val (.ref b11), .val (.int (0 : Int32)), .unset, .unset, .unset, .unset] [(.int (0 : Int32))])) _
    refine XS.iload X21.here hx rfl (hb hby at_92) rfl ?_
    show Steps p.tables e below (T21.setTop (mkF m 94 #[.val (.int p0), .val (.int p1), .val (.int p2), .val (.int p3), .val (.int p4), .val (.int (1 : Int32)), .val (.double (FP.i2d (p3 &&& (2147483647 : Int32)))), .second, .val (.double (FP.dadd (FP.i2d (p3 &&& (2147483647 : Int32))) (FP.i2d (p4 &&& (65535 : Int32))))), .second, .val (.ref b1), .val (.ref b5), .val (.ref b11), .val (.int (0 : Int32)), .unset, .unset, .unset, .unset] [(.int (1 : Int32)), (.int (0 : Int32))])) _
    refine XS.ifYes X21.here hx rfl (pc0 := 94) (pc' := 101) rfl (hb hby at_94) rfl ((if0 _ _).trans (feq (by decide : ¬ ((1 : Int32) = (0 : Int32)))).2) (by decide) (by decide) ?_
    show Steps p.tables e below (T21.setTop (mkF m 101 #[.val (.int p0), .val (.int p1), .val (.int p2), .val (.int p3), .val (.int p4), .val (.int (1 : Int32)), .val (.double (FP.i2d (p3 &&& (2147483647 : Int32)))), .second, .val (.double (FP.dadd (FP.i2d (p3 &&& (2147483647 : Int32))) (FP.i2d (p4 &&& (65535 : Int32))))), .second, .val (.ref b1), .val (.ref b5), .val (.ref b11), .val (.int (0 : Int32)), .unset, .unset, .unset, .unset] [(.int (0 : Int32))])) _
    refine XS.iconst X21.here hx rfl (hb hby at_101) ?_
    show Steps p.tables e below (T21.setTop (mkF m 102 #[.val (.int p0), .val (.int p1), .val (.int p2), .val (.int p3), .val (.int p4), .val (.int (1 : Int32)), .val (.double (FP.i2d (p3 &&& (2147483647 : Int32)))), .second, .val (.double (FP.dadd (FP.i2d (p3 &&& (2147483647 : Int32))) (FP.i2d (p4 &&& (65535 : Int32))))), .second, .val (.ref b1), .val (.ref b5), .val (.ref b11), .val (.int (0 : Int32)), .unset, .unset, .unset, .unset] [(.int (0 : Int32)), (.int (0 : Int32))])) _
    refine XS.icmpYes X21.here hx rfl (pc0 := 102) (pc' := 107) rfl (hb hby at_102) rfl (teq (by decide : (0 : Int32) = (0 : Int32))).1 (by decide) (by decide) ?_
    show Steps p.tables e below (T21.setTop (mkF m 107 #[.val (.int p0), .val (.int p1), .val (.int p2), .val (.int p3), .val (.int p4), .val (.int (1 : Int32)), .val (.double (FP.i2d (p3 &&& (2147483647 : Int32)))), .second, .val (.double (FP.dadd (FP.i2d (p3 &&& (2147483647 : Int32))) (FP.i2d (p4 &&& (65535 : Int32))))), .second, .val (.ref b1), .val (.ref b5), .val (.ref b11), .val (.int (0 : Int32)), .unset, .unset, .unset, .unset] [])) _
    refine XS.iload X21.here hx rfl (hb hby at_107) rfl ?_
    show Steps p.tables e below (T21.setTop (mkF m 109 #[.val (.int p0), .val (.int p1), .val (.int p2), .val (.int p3), .val (.int p4), .val (.int (1 : Int32)), .val (.double (FP.i2d (p3 &&& (2147483647 : Int32)))), .second, .val (.double (FP.dadd (FP.i2d (p3 &&& (2147483647 : Int32))) (FP.i2d (p4 &&& (65535 : Int32))))), .second, .val (.ref b1), .val (.ref b5), .val (.ref b11), .val (.int (0 : Int32)), .unset, .unset, .unset, .unset] [(.int (0 : Int32))])) _
    refine XS.aload X21.here hx rfl (hb hby at_109) rfl rfl ?_
    show Steps p.tables e below (T21.setTop (mkF m 111 #[.val (.int p0), .val (.int p1), .val (.int p2), .val (.int p3), .val (.int p4), .val (.int (1 : Int32)), .val (.double (FP.i2d (p3 &&& (2147483647 : Int32)))), .second, .val (.double (FP.dadd (FP.i2d (p3 &&& (2147483647 : Int32))) (FP.i2d (p4 &&& (65535 : Int32))))), .second, .val (.ref b1), .val (.ref b5), .val (.ref b11), .val (.int (0 : Int32)), .unset, .unset, .unset, .unset] [(.ref b11), (.int (0 : Int32))])) _
    refine st22.trans ?_
    show Steps p.tables e below (T22.setTop (mkF m 114 #[.val (.int p0), .val (.int p1), .val (.int p2), .val (.int p3), .val (.int p4), .val (.int (1 : Int32)), .val (.double (FP.i2d (p3 &&& (2147483647 : Int32)))), .second, .val (.double (FP.dadd (FP.i2d (p3 &&& (2147483647 : Int32))) (FP.i2d (p4 &&& (65535 : Int32))))), .second, .val (.ref b1), .val (.ref b5), .val (.ref b11), .val (.int (0 : Int32)), .unset, .unset, .unset, .unset] [(.ref b1), (.int (0 : Int32))])) _
    refine XS.ifnonnullYes X22.here hx rfl (pc0 := 114) (pc' := 121) rfl (hb hby at_114) rfl (by decide) (by decide) ?_
    show Steps p.tables e below (T22.setTop (mkF m 121 #[.val (.int p0), .val (.int p1), .val (.int p2), .val (.int p3), .val (.int p4), .val (.int (1 : Int32)), .val (.double (FP.i2d (p3 &&& (2147483647 : Int32)))), .second, .val (.double (FP.dadd (FP.i2d (p3 &&& (2147483647 : Int32))) (FP.i2d (p4 &&& (65535 : Int32))))), .second, .val (.ref b1), .val (.ref b5), .val (.ref b11), .val (.int (0 : Int32)), .unset, .unset, .unset, .unset] [(.int (0 : Int32))])) _
    refine XS.iconst X22.here hx rfl (hb hby at_121) ?_
    show Steps p.tables e below (T22.setTop (mkF m 122 #[.val (.int p0), .val (.int p1), .val (.int p2), .val (.int p3), .val (.int p4), .val (.int (1 : Int32)), .val (.double (FP.i2d (p3 &&& (2147483647 : Int32)))), .second, .val (.double (FP.dadd (FP.i2d (p3 &&& (2147483647 : Int32))) (FP.i2d (p4 &&& (65535 : Int32))))), .second, .val (.ref b1), .val (.ref b5), .val (.ref b11), .val (.int (0 : Int32)), .unset, .unset, .unset, .unset] [(.int (0 : Int32)), (.int (0 : Int32))])) _
    refine XS.icmpYes X22.here hx rfl (pc0 := 122) (pc' := 127) rfl (hb hby at_122) rfl (teq (by decide : (0 : Int32) = (0 : Int32))).1 (by decide) (by decide) ?_
    show Steps p.tables e below (T22.setTop (mkF m 127 #[.val (.int p0), .val (.int p1), .val (.int p2), .val (.int p3), .val (.int p4), .val (.int (1 : Int32)), .val (.double (FP.i2d (p3 &&& (2147483647 : Int32)))), .second, .val (.double (FP.dadd (FP.i2d (p3 &&& (2147483647 : Int32))) (FP.i2d (p4 &&& (65535 : Int32))))), .second, .val (.ref b1), .val (.ref b5), .val (.ref b11), .val (.int (0 : Int32)), .unset, .unset, .unset, .unset] [])) _
    refine XS.aload X22.here hx rfl (hb hby at_127) rfl rfl ?_
    show Steps p.tables e below (T22.setTop (mkF m 129 #[.val (.int p0), .val (.int p1), .val (.int p2), .val (.int p3), .val (.int p4), .val (.int (1 : Int32)), .val (.double (FP.i2d (p3 &&& (2147483647 : Int32)))), .second, .val (.double (FP.dadd (FP.i2d (p3 &&& (2147483647 : Int32))) (FP.i2d (p4 &&& (65535 : Int32))))), .second, .val (.ref b1), .val (.ref b5), .val (.ref b11), .val (.int (0 : Int32)), .unset, .unset, .unset, .unset] [(.ref b11)])) _
    refine XS.iconst X22.here hx rfl (hb hby at_129) ?_
    show Steps p.tables e below (T22.setTop (mkF m 130 #[.val (.int p0), .val (.int p1), .val (.int p2), .val (.int p3), .val (.int p4), .val (.int (1 : Int32)), .val (.double (FP.i2d (p3 &&& (2147483647 : Int32)))), .second, .val (.double (FP.dadd (FP.i2d (p3 &&& (2147483647 : Int32))) (FP.i2d (p4 &&& (65535 : Int32))))), .second, .val (.ref b1), .val (.ref b5), .val (.ref b11), .val (.int (0 : Int32)), .unset, .unset, .unset, .unset] [(.int (0 : Int32)), (.ref b11)])) _
    refine st23.trans ?_
    show Steps p.tables e below (T23.setTop (mkF m 133 #[.val (.int p0), .val (.int p1), .val (.int p2), .val (.int p3), .val (.int p4), .val (.int (1 : Int32)), .val (.double (FP.i2d (p3 &&& (2147483647 : Int32)))), .second, .val (.double (FP.dadd (FP.i2d (p3 &&& (2147483647 : Int32))) (FP.i2d (p4 &&& (65535 : Int32))))), .second, .val (.ref b1), .val (.ref b5), .val (.ref b11), .val (.int (0 : Int32)), .unset, .unset, .unset, .unset] [(.double (FP.i2d (p1 ||| (1 : Int32))))])) _
    refine XS.dstore X23.here hx rfl (hb hby at_133) rfl (l' := #[.val (.int p0), .val (.int p1), .val (.int p2), .val (.int p3), .val (.int p4), .val (.int (1 : Int32)), .val (.double (FP.i2d (p3 &&& (2147483647 : Int32)))), .second, .val (.double (FP.dadd (FP.i2d (p3 &&& (2147483647 : Int32))) (FP.i2d (p4 &&& (65535 : Int32))))), .second, .val (.ref b1), .val (.ref b5), .val (.ref b11), .val (.int (0 : Int32)), .val (.double (FP.i2d (p1 ||| (1 : Int32)))), .second, .unset, .unset]) rfl ?_
    show Steps p.tables e below (T23.setTop (mkF m 135 #[.val (.int p0), .val (.int p1), .val (.int p2), .val (.int p3), .val (.int p4), .val (.int (1 : Int32)), .val (.double (FP.i2d (p3 &&& (2147483647 : Int32)))), .second, .val (.double (FP.dadd (FP.i2d (p3 &&& (2147483647 : Int32))) (FP.i2d (p4 &&& (65535 : Int32))))), .second, .val (.ref b1), .val (.ref b5), .val (.ref b11), .val (.int (0 : Int32)), .val (.double (FP.i2d (p1 ||| (1 : Int32)))), .second, .unset, .unset] [])) _
    refine XS.aload X23.here hx rfl (hb hby at_135) rfl rfl ?_
    show Steps p.tables e below (T23.setTop (mkF m 137 #[.val (.int p0), .val (.int p1), .val (.int p2), .val (.int p3), .val (.int p4), .val (.int (1 : Int32)), .val (.double (FP.i2d (p3 &&& (2147483647 : Int32)))), .second, .val (.double (FP.dadd (FP.i2d (p3 &&& (2147483647 : Int32))) (FP.i2d (p4 &&& (65535 : Int32))))), .second, .val (.ref b1), .val (.ref b5), .val (.ref b11), .val (.int (0 : Int32)), .val (.double (FP.i2d (p1 ||| (1 : Int32)))), .second, .unset, .unset] [(.ref b11)])) _
    refine XS.iconst X23.here hx rfl (hb hby at_137) ?_
    show Steps p.tables e below (T23.setTop (mkF m 138 #[.val (.int p0), .val (.int p1), .val (.int p2), .val (.int p3), .val (.int p4), .val (.int (1 : Int32)), .val (.double (FP.i2d (p3 &&& (2147483647 : Int32)))), .second, .val (.double (FP.dadd (FP.i2d (p3 &&& (2147483647 : Int32))) (FP.i2d (p4 &&& (65535 : Int32))))), .second, .val (.ref b1), .val (.ref b5), .val (.ref b11), .val (.int (0 : Int32)), .val (.double (FP.i2d (p1 ||| (1 : Int32)))), .second, .unset, .unset] [(.int (0 : Int32)), (.ref b11)])) _
    refine st24.trans ?_
    show Steps p.tables e below (T24.setTop (mkF m 141 #[.val (.int p0), .val (.int p1), .val (.int p2), .val (.int p3), .val (.int p4), .val (.int (1 : Int32)), .val (.double (FP.i2d (p3 &&& (2147483647 : Int32)))), .second, .val (.double (FP.dadd (FP.i2d (p3 &&& (2147483647 : Int32))) (FP.i2d (p4 &&& (65535 : Int32))))), .second, .val (.ref b1), .val (.ref b5), .val (.ref b11), .val (.int (0 : Int32)), .val (.double (FP.i2d (p1 ||| (1 : Int32)))), .second, .unset, .unset] [(.double (FP.i2d (p2 ||| (1 : Int32))))])) _
    refine XS.dstore X24.here hx rfl (hb hby at_141) rfl (l' := #[.val (.int p0), .val (.int p1), .val (.int p2), .val (.int p3), .val (.int p4), .val (.int (1 : Int32)), .val (.double (FP.i2d (p3 &&& (2147483647 : Int32)))), .second, .val (.double (FP.dadd (FP.i2d (p3 &&& (2147483647 : Int32))) (FP.i2d (p4 &&& (65535 : Int32))))), .second, .val (.ref b1), .val (.ref b5), .val (.ref b11), .val (.int (0 : Int32)), .val (.double (FP.i2d (p1 ||| (1 : Int32)))), .second, .val (.double (FP.i2d (p2 ||| (1 : Int32)))), .second]) rfl ?_
    show Steps p.tables e below (T24.setTop (mkF m 143 #[.val (.int p0), .val (.int p1), .val (.int p2), .val (.int p3), .val (.int p4), .val (.int (1 : Int32)), .val (.double (FP.i2d (p3 &&& (2147483647 : Int32)))), .second, .val (.double (FP.dadd (FP.i2d (p3 &&& (2147483647 : Int32))) (FP.i2d (p4 &&& (65535 : Int32))))), .second, .val (.ref b1), .val (.ref b5), .val (.ref b11), .val (.int (0 : Int32)), .val (.double (FP.i2d (p1 ||| (1 : Int32)))), .second, .val (.double (FP.i2d (p2 ||| (1 : Int32)))), .second] [])) _
    refine XS.iload X24.here hx rfl (hb hby at_143) rfl ?_
    show Steps p.tables e below (T24.setTop (mkF m 145 #[.val (.int p0), .val (.int p1), .val (.int p2), .val (.int p3), .val (.int p4), .val (.int (1 : Int32)), .val (.double (FP.i2d (p3 &&& (2147483647 : Int32)))), .second, .val (.double (FP.dadd (FP.i2d (p3 &&& (2147483647 : Int32))) (FP.i2d (p4 &&& (65535 : Int32))))), .second, .val (.ref b1), .val (.ref b5), .val (.ref b11), .val (.int (0 : Int32)), .val (.double (FP.i2d (p1 ||| (1 : Int32)))), .second, .val (.double (FP.i2d (p2 ||| (1 : Int32)))), .second] [(.int (0 : Int32))])) _
    refine XS.ifYes X24.here hx rfl (pc0 := 145) (pc' := 168) rfl (hb hby at_145) rfl ((if0 _ _).trans (teq (by decide : (0 : Int32) = (0 : Int32))).1) (by decide) (by decide) ?_
    show Steps p.tables e below (T24.setTop (mkF m 168 #[.val (.int p0), .val (.int p1), .val (.int p2), .val (.int p3), .val (.int p4), .val (.int (1 : Int32)), .val (.double (FP.i2d (p3 &&& (2147483647 : Int32)))), .second, .val (.double (FP.dadd (FP.i2d (p3 &&& (2147483647 : Int32))) (FP.i2d (p4 &&& (65535 : Int32))))), .second, .val (.ref b1), .val (.ref b5), .val (.ref b11), .val (.int (0 : Int32)), .val (.double (FP.i2d (p1 ||| (1 : Int32)))), .second, .val (.double (FP.i2d (p2 ||| (1 : Int32)))), .second] [])) _
    refine XS.dload X24.here hx rfl (hb hby at_168) rfl ?_
    show Steps p.tables e below (T24.setTop (mkF m 170 #[.val (.int p0), .val (.int p1), .val (.int p2), .val (.int p3), .val (.int p4), .val (.int (1 : Int32)), .val (.double (FP.i2d (p3 &&& (2147483647 : Int32)))), .second, .val (.double (FP.dadd (FP.i2d (p3 &&& (2147483647 : Int32))) (FP.i2d (p4 &&& (65535 : Int32))))), .second, .val (.ref b1), .val (.ref b5), .val (.ref b11), .val (.int (0 : Int32)), .val (.double (FP.i2d (p1 ||| (1 : Int32)))), .second, .val (.double (FP.i2d (p2 ||| (1 : Int32)))), .second] [(.double (FP.i2d (p1 ||| (1 : Int32))))])) _
    refine XS.dconst0 X24.here hx rfl (hb hby at_170) (v := (0 : UInt64)) rfl ?_
    show Steps p.tables e below (T24.setTop (mkF m 171 #[.val (.int p0), .val (.int p1), .val (.int p2), .val (.int p3), .val (.int p4), .val (.int (1 : Int32)), .val (.double (FP.i2d (p3 &&& (2147483647 : Int32)))), .second, .val (.double (FP.dadd (FP.i2d (p3 &&& (2147483647 : Int32))) (FP.i2d (p4 &&& (65535 : Int32))))), .second, .val (.ref b1), .val (.ref b5), .val (.ref b11), .val (.int (0 : Int32)), .val (.double (FP.i2d (p1 ||| (1 : Int32)))), .second, .val (.double (FP.i2d (p2 ||| (1 : Int32)))), .second] [(.double (0 : UInt64)), (.double (FP.i2d (p1 ||| (1 : Int32))))])) _
    refine XS.dcmpS X24.here hx rfl (hb hby at_171) rfl (v := (-1 : Int32)) hd171 ?_
    show Steps p.tables e below (T24.setTop (mkF m 172 #[.val (.int p0), .val (.int p1), .val (.int p2), .val (.int p3), .val (.int p4), .val (.int (1 : Int32)), .val (.double (FP.i2d (p3 &&& (2147483647 : Int32)))), .second, .val (.double (FP.dadd (FP.i2d (p3 &&& (2147483647 : Int32))) (FP.i2d (p4 &&& (65535 : Int32))))), .second, .val (.ref b1), .val (.ref b5), .val (.ref b11), .val (.int (0 : Int32)), .val (.double (FP.i2d (p1 ||| (1 : Int32)))), .second, .val (.double (FP.i2d (p2 ||| (1 : Int32)))), .second] [(.int (-1 : Int32))])) _
    refine XS.ifYes X24.here hx rfl (pc0 := 172) (pc' := 182) rfl (hb hby at_172) rfl ((if0 _ _).trans (feq (by decide : ¬ ((-1 : Int32) = (0 : Int32)))).2) (by decide) (by decide) ?_
    show Steps p.tables e below (T24.setTop (mkF m 182 #[.val (.int p0), .val (.int p1), .val (.int p2), .val (.int p3), .val (.int p4), .val (.int (1 : Int32)), .val (.double (FP.i2d (p3 &&& (2147483647 : Int32)))), .second, .val (.double (FP.dadd (FP.i2d (p3 &&& (2147483647 : Int32))) (FP.i2d (p4 &&& (65535 : Int32))))), .second, .val (.ref b1), .val (.ref b5), .val (.ref b11), .val (.int (0 : Int32)), .val (.double (FP.i2d (p1 ||| (1 : Int32)))), .second, .val (.double (FP.i2d (p2 ||| (1 : Int32)))), .second] [])) _
    refine XS.iconst X24.here hx rfl (hb hby at_182) ?_
    show Steps p.tables e below (T24.setTop (mkF m 183 #[.val (.int p0), .val (.int p1), .val (.int p2), .val (.int p3), .val (.int p4), .val (.int (1 : Int32)), .val (.double (FP.i2d (p3 &&& (2147483647 : Int32)))), .second, .val (.double (FP.dadd (FP.i2d (p3 &&& (2147483647 : Int32))) (FP.i2d (p4 &&& (65535 : Int32))))), .second, .val (.ref b1), .val (.ref b5), .val (.ref b11), .val (.int (0 : Int32)), .val (.double (FP.i2d (p1 ||| (1 : Int32)))), .second, .val (.double (FP.i2d (p2 ||| (1 : Int32)))), .second] [(.int (1 : Int32))])) _
    refine XS.goto X24.here hx rfl (pc0 := 183) (pc' := 187) rfl (hb hby at_183) (by decide) (by decide) ?_
    show Steps p.tables e below (T24.setTop (mkF m 187 #[.val (.int p0), .val (.int p1), .val (.int p2), .val (.int p3), .val (.int p4), .val (.int (1 : Int32)), .val (.double (FP.i2d (p3 &&& (2147483647 : Int32)))), .second, .val (.double (FP.dadd (FP.i2d (p3 &&& (2147483647 : Int32))) (FP.i2d (p4 &&& (65535 : Int32))))), .second, .val (.ref b1), .val (.ref b5), .val (.ref b11), .val (.int (0 : Int32)), .val (.double (FP.i2d (p1 ||| (1 : Int32)))), .second, .val (.double (FP.i2d (p2 ||| (1 : Int32)))), .second] [(.int (1 : Int32))])) _
    exact retN X24 hx (t := .boolean) Bd.returns (by simp) (hb hby at_187) hr
  · show Q0 n0 _ T24.heap _
    rw [e24]
    exact ⟨rfl, N24⟩
set_option maxRecDepth 65536 in
set_option maxHeartbeats 40000000 in
theorem rm0_r2 (l : Launch) (Z : State) (a0 : Array Value) (hw : ∀ d ∈ tables_1, d.before a0 Z = true) (ws : List Jvm.Cond) (p0 : Int32) (p1 : Int32) (p2 : Int32) (p3 : Int32) (p4 : Int32) (h0 : Heap) (n0 : Nat) (Z0 : n0 ≤ h0.size) (hc3 : ¬ ((p0 &&& (1 : Int32)) = (0 : Int32))) (nn28 : Jvm.Free.Fl.NoNaN64 (FP.dadd (FP.i2d (p3 &&& (2147483647 : Int32))) (FP.i2d (p4 &&& (65535 : Int32))))) (hd171 : (cmpValue (FP.dcmp (FP.i2d (p1 ||| (1 : Int32))) (0 : UInt64)) .l) = (1 : Int32)) :
    MetFree l x (head1 (Jvm.Cond.code x code maxLocals ret :: ws) room_1) (fun a U => a = #[(.int p0), (.int p1), (.int p2), (.int p3), (.int p4)] ∧ Z.Warmed39 U.vm ∧ U.heap = h0) (fun _ _ _ _ _ => True) (fun _ U o U' => ∃ v L, o = .returned v ∧ Q0 n0 v U'.heap L ∧ FrameEnd U o U' L room_1.cells room_1.slots) := by
  refine MetFree.of_bodySF (plainFor_of_name pn_com_example_odds_on_counters_oddsoncounters_numeric_JetIsConstantPinLaw) hisR ?_
  intro p e s m args below meth c s₁ Bd hml0 hP hK
  obtain ⟨rfl, hZ, hh⟩ := hP
  have hx := Bd.exec
  have hby := Bd.bytes
  have hml : c.maxLocals = 18 := hml0
  have hown : s.vm.findClass "com/example/odds_on_counters/oddsoncounters/numeric/JetIsConstantPinLaw" = some m.cls := findClass_of_methodNamed Bd.named
  have hnm := (name_of_methodNamed Bd.named Bd.method).1
  have X0 : Stand p l e room_1 s m #[(.int p0), (.int p1), (.int p2), (.int p3), (.int p4)] below meth c s₁ [] 0 0 := Stand.of_body Bd
  have e0 : s₁.heap = h0 := by rw [← hh, Bd.state]; rfl
  have N0 := Fr.nil n0
  have pre0 : ∀ t, Steps p.tables e below (s₁.setTop (mkF m 0 #[.val (.int p0), .val (.int p1), .val (.int p2), .val (.int p3), .val (.int p4), .unset, .unset, .unset, .unset, .unset, .unset, .unset, .unset, .unset, .unset, .unset, .unset, .unset] [])) t → Steps p.tables e below (s₁.setTop (entryFrame m #[(.int p0), (.int p1), (.int p2), (.int p3), (.int p4)] maxLocals)) t := fun t k => castTop (ef_0_IIIII m p0 p1 p2 p3 p4) k
  obtain ⟨T1, h1, k1, X1, e1, E1, A1, st1⟩ := newP X0 hx hZ (hw _ (List.mem_of_getElem? (i := 39) rfl)) e0 (g := (mkF m 43 #[.val (.int p0), .val (.int p1), .val (.int p2), .val (.int p3), .val (.int p4), .val (.int (1 : Int32)), .val (.double (FP.i2d (p3 &&& (2147483647 : Int32)))), .second, .val (.double (FP.dadd (FP.i2d (p3 &&& (2147483647 : Int32))) (FP.i2d (p4 &&& (65535 : Int32))))), .second, .val .null, .val .null, .unset, .unset, .unset, .unset, .unset, .unset] [(.int (1 : Int32))])) rfl (hb hby at_43) rfl (by decide) (cap := 1) (by decide) (by decide) (by decide) (by decide)
  obtain ⟨b1, g1⟩ : ∃ z, z = h0.size := ⟨_, rfl⟩
  rw [← g1] at A1 st1
  have g_b1 : n0 ≤ b1 := Nat.le_trans Z0 (Nat.le_of_eq g1.symm)
  have sz_b1 : h0.size ≤ b1 := Nat.le_trans (Keep.refl h0 []).1 (Nat.le_of_eq g1.symm)
  have K1 : Keep h0 h1 [] := (Keep.refl h0 []).ext E1
  have Zs1 := Nat.le_trans Z0 E1.1
  have V1 : Arv Z h1 b1 k1 .double (1 : Int32) [(.double (0 : UInt64))] (.double (0 : UInt64)) := (Arv.new A1 (by decide)).pad (pad_rep [] (.double (0 : UInt64)) 1)
  obtain ⟨cq2, Arq2, qq2, Sq2, Nq2, Hq2, Gq2⟩ := V1
  obtain ⟨T3, h3, X3, e3, W3, st3⟩ := stD X1 hx hZ e1 Arq2 (j := (0 : Int32)) (inb_of Sq2 ⟨by decide, by decide⟩) (g := (mkF m 51 #[.val (.int p0), .val (.int p1), .val (.int p2), .val (.int p3), .val (.int p4), .val (.int (1 : Int32)), .val (.double (FP.i2d (p3 &&& (2147483647 : Int32)))), .second, .val (.double (FP.dadd (FP.i2d (p3 &&& (2147483647 : Int32))) (FP.i2d (p4 &&& (65535 : Int32))))), .second, .val .null, .val .null, .unset, .unset, .unset, .unset, .unset, .unset] [(.double (FP.i2d (p1 ||| (1 : Int32)))), (.int (0 : Int32)), (.ref b1), (.ref b1)])) rfl rfl (hb hby at_51)
  have K3 : Keep h0 h3 [] := K1.wr W3 (Or.inr sz_b1)
  have Zs3 := Nat.le_trans Zs1 (Keep.of_wr W3).1
  have N3 := Fr.snoc X3 N0 g_b1
  have f4 : Arv Z h3 b1 k1 .double (1 : Int32) [(.double (FP.i2d (p1 ||| (1 : Int32))))] (.double (0 : UInt64)) := Arv.set Arq2 qq2 Sq2 Nq2 Hq2 Gq2 rfl W3 0 rfl (Nat.le_of_ble_eq_true rfl)
  obtain ⟨T5, h5, k5, X5, e5, E5, A5, st5⟩ := newP X3 hx hZ (hw _ (List.mem_of_getElem? (i := 39) rfl)) e3 (g := (mkF m 55 #[.val (.int p0), .val (.int p1), .val (.int p2), .val (.int p3), .val (.int p4), .val (.int (1 : Int32)), .val (.double (FP.i2d (p3 &&& (2147483647 : Int32)))), .second, .val (.double (FP.dadd (FP.i2d (p3 &&& (2147483647 : Int32))) (FP.i2d (p4 &&& (65535 : Int32))))), .second, .val (.ref b1), .val .null, .unset, .unset, .unset, .unset, .unset, .unset] [(.int (1 : Int32))])) rfl (hb hby at_55) rfl (by decide) (cap := 1) (by decide) (by decide) (by decide) (by decide)
  obtain ⟨b5, g5⟩ : ∃ z, z = h3.size := ⟨_, rfl⟩
  rw [← g5] at A5 st5
  have ne_b1_b5 : b1 ≠ b5 := Nat.ne_of_lt (Nat.lt_of_lt_of_le f4.lt (Nat.le_of_eq g5.symm))
  have g_b5 : n0 ≤ b5 := Nat.le_trans Zs3 (Nat.le_of_eq g5.symm)
  have sz_b5 : h0.size ≤ b5 := Nat.le_trans K3.1 (Nat.le_of_eq g5.symm)
  have f6 := f4.ext E5
  have K5 : Keep h0 h5 [] := K3.ext E5
  have Zs5 := Nat.le_trans Zs3 E5.1
  have V5 : Arv Z h5 b5 k5 .double (1 : Int32) [(.double (0 : UInt64))] (.double (0 : UInt64)) := (Arv.new A5 (by decide)).pad (pad_rep [] (.double (0 : UInt64)) 1)
  obtain ⟨cq7, Arq7, qq7, Sq7, Nq7, Hq7, Gq7⟩ := V5
  obtain ⟨T8, h8, X8, e8, W8, st8⟩ := stD X5 hx hZ e5 Arq7 (j := (0 : Int32)) (inb_of Sq7 ⟨by decide, by decide⟩) (g := (mkF m 63 #[.val (.int p0), .val (.int p1), .val (.int p2), .val (.int p3), .val (.int p4), .val (.int (1 : Int32)), .val (.double (FP.i2d (p3 &&& (2147483647 : Int32)))), .second, .val (.double (FP.dadd (FP.i2d (p3 &&& (2147483647 : Int32))) (FP.i2d (p4 &&& (65535 : Int32))))), .second, .val (.ref b1), .val .null, .unset, .unset, .unset, .unset, .unset, .unset] [(.double (FP.i2d (p2 ||| (1 : Int32)))), (.int (0 : Int32)), (.ref b5), (.ref b5)])) rfl rfl (hb hby at_63)
  have f9 := f6.other W8 ne_b1_b5
  have K8 : Keep h0 h8 [] := K5.wr W8 (Or.inr sz_b5)
  have Zs8 := Nat.le_trans Zs5 (Keep.of_wr W8).1
  have N8 := Fr.snoc X8 N3 g_b5
  have f10 : Arv Z h8 b5 k5 .double (1 : Int32) [(.double (FP.i2d (p2 ||| (1 : Int32))))] (.double (0 : UInt64)) := Arv.set Arq7 qq7 Sq7 Nq7 Hq7 Gq7 rfl W8 0 rfl (Nat.le_of_ble_eq_true rfl)
  obtain ⟨T11, h11, X11, e11, E11, A11, D11, -, st11⟩ := newO X8 hx hZ hown (hw _ (List.mem_of_getElem? (i := 2) rfl)) (hw _ (List.mem_of_getElem? (i := 3) rfl)) (hw _ (List.mem_of_getElem? (i := 4) rfl)) e8 (g := (mkF m 66 #[.val (.int p0), .val (.int p1), .val (.int p2), .val (.int p3), .val (.int p4), .val (.int (1 : Int32)), .val (.double (FP.i2d (p3 &&& (2147483647 : Int32)))), .second, .val (.double (FP.dadd (FP.i2d (p3 &&& (2147483647 : Int32))) (FP.i2d (p4 &&& (65535 : Int32))))), .second, .val (.ref b1), .val (.ref b5), .unset, .unset, .unset, .unset, .unset, .unset] [])) rfl (hb hby at_66) (by decide) (by decide)
  obtain ⟨b11, g11⟩ : ∃ z, z = h8.size := ⟨_, rfl⟩
  rw [← g11] at A11 D11 st11
  have ne_b1_b11 : b1 ≠ b11 := Nat.ne_of_lt (Nat.lt_of_lt_of_le f9.lt (Nat.le_of_eq g11.symm))
  have ne_b5_b11 : b5 ≠ b11 := Nat.ne_of_lt (Nat.lt_of_lt_of_le f10.lt (Nat.le_of_eq g11.symm))
  have g_b11 : n0 ≤ b11 := Nat.le_trans Zs8 (Nat.le_of_eq g11.symm)
  have sz_b11 : h0.size ≤ b11 := Nat.le_trans K8.1 (Nat.le_of_eq g11.symm)
  have f12 := f9.ext E11
  have f13 := f10.ext E11
  have K11 : Keep h0 h11 [] := K8.ext E11
  have Zs11 := Nat.le_trans Zs8 E11.1
  have F11_low : Fld Z h11 b11 "com/example/odds_on_counters/oddsoncounters/numeric/Jet" "low" "D" (.double (0 : UInt64)) := D11 (Or.inr (hw _ (List.mem_of_getElem? (i := 12) rfl))) (ty := .double) (by decide)
  have F11_high : Fld Z h11 b11 "com/example/odds_on_counters/oddsoncounters/numeric/Jet" "high" "D" (.double (0 : UInt64)) := D11 (Or.inr (hw _ (List.mem_of_getElem? (i := 14) rfl))) (ty := .double) (by decide)
  have F11_slopeLow : Fld Z h11 b11 "com/example/odds_on_counters/oddsoncounters/numeric/Jet" "slopeLow" "[D" .null := D11 (Or.inr (hw _ (List.mem_of_getElem? (i := 16) rfl))) (ty := (.array .double)) (by decide)
  have F11_slopeHigh : Fld Z h11 b11 "com/example/odds_on_counters/oddsoncounters/numeric/Jet" "slopeHigh" "[D" .null := D11 (Or.inr (hw _ (List.mem_of_getElem? (i := 18) rfl))) (ty := (.array .double)) (by decide)
  obtain ⟨_, _, ⟨T14, L14, k14, n14⟩, -, X14, ⟨Lc14, hQ14, l14, y14, z14⟩, st14⟩ := X11.specialBack hx (y := (⟨"com/example/odds_on_counters/oddsoncounters/numeric/Jet", "<init>", "(DD[D[D)V"⟩ : MethodName)) rfl hown (mvT hZ (hw _ (List.mem_of_getElem? (i := 5) rfl))) (mvT hZ (hw _ (List.mem_of_getElem? (i := 6) rfl))) (mvT hZ (hw _ (List.mem_of_getElem? (i := 7) rfl))) (by decide) (backOf (W := 1) (rm1r l Z a0 hw [] b11 (FP.i2d (p3 &&& (2147483647 : Int32))) (FP.dadd (FP.i2d (p3 &&& (2147483647 : Int32))) (FP.i2d (p4 &&& (65535 : Int32)))) b1 b5 h11 n0 Zs11 A11 F11_low F11_high F11_slopeLow F11_slopeHigh g_b11) hZ (hw _ (List.mem_of_getElem? (i := 7) rfl)) (hw _ (List.mem_of_getElem? (i := 4) rfl)) (by decide) (by decide)) (g := (mkF m 78 #[.val (.int p0), .val (.int p1), .val (.int p2), .val (.int p3), .val (.int p4), .val (.int (1 : Int32)), .val (.double (FP.i2d (p3 &&& (2147483647 : Int32)))), .second, .val (.double (FP.dadd (FP.i2d (p3 &&& (2147483647 : Int32))) (FP.i2d (p4 &&& (65535 : Int32))))), .second, .val (.ref b1), .val (.ref b5), .unset, .unset, .unset, .unset, .unset, .unset] [(.ref b5), (.ref b1), (.double (FP.dadd (FP.i2d (p3 &&& (2147483647 : Int32))) (FP.i2d (p4 &&& (65535 : Int32))))), (.double (FP.i2d (p3 &&& (2147483647 : Int32)))), (.ref b11), (.ref b11)])) rfl (by rw [hml]; rfl) (Steps.refl _) (a := b11) (argsL := [(.double (FP.i2d (p3 &&& (2147483647 : Int32)))), (.double (FP.dadd (FP.i2d (p3 &&& (2147483647 : Int32))) (FP.i2d (p4 &&& (65535 : Int32))))), (.ref b1), (.ref b5)]) (rest := [(.ref b11)]) (lenOf pd_0 rfl) rfl (by show 2 * 0 + _ ≤ _; exact Nat.le_of_eq rfl) (hb hby at_78) (fun _ _ => ⟨rfl, e11, (by decide : 3 + 0 ≤ _), (by decide : 6 + 0 ≤ _)⟩)
  dsimp only [Pt.U, Pt.locs, Pt.cells, Pt.slots] at X14 l14 y14 z14 st14 hQ14
  subst l14 y14 z14
  obtain ⟨rfl, N14q, K14q, f15, f16, f17⟩ := hQ14
  have N14 := Fr.app N8 N14q
  have f18 := f12.keep K14q (own_niS ne_b1_b11 own_ni0)
  have f19 := f13.keep K14q (own_niS ne_b5_b11 own_ni0)
  have f20 := A11.keep K14q
  have K14 : Keep h0 T14.heap [] := K11.trans K14q (own_allS (Or.inr sz_b11) own_all0)
  have Zs14 := Nat.le_trans Zs11 K14q.1
  obtain ⟨cq21, kq21, q21a, q21b, q21c⟩ := isOf hZ rfl f15
  obtain ⟨_, _, ⟨T21, L21, k21, n21⟩, -, X21, ⟨Lc21, hQ21, l21, y21, z21⟩, st21⟩ := X14.virtualBack hx (y := (⟨"com/example/odds_on_counters/oddsoncounters/numeric/Jet", "isConstant", "()Z"⟩ : MethodName)) (z := (⟨"com/example/odds_on_counters/oddsoncounters/numeric/Jet", "isConstant", "()Z"⟩ : MethodName)) hown (mvT hZ (hw _ (List.mem_of_getElem? (i := 19) rfl))) (mvT hZ (hw _ (List.mem_of_getElem? (i := 20) rfl))) (notFace_of_selects (args := #[]) (mvT hZ (hw _ (List.mem_of_getElem? (i := 22) rfl)))) (mvT hZ (hw _ (List.mem_of_getElem? (i := 22) rfl))) (mvT hZ (hw _ (List.mem_of_getElem? (i := 21) rfl))) (by decide) (backOf (W := 0) (rm3_r l Z a0 hw [] b11 b1 T14.heap n0 Zs14 f16) hZ (hw _ (List.mem_of_getElem? (i := 23) rfl)) (hw _ (List.mem_of_getElem? (i := 4) rfl)) (by decide) (by decide)) q21a q21c (g := (mkF m 85 #[.val (.int p0), .val (.int p1), .val (.int p2), .val (.int p3), .val (.int p4), .val (.int (1 : Int32)), .val (.double (FP.i2d (p3 &&& (2147483647 : Int32)))), .second, .val (.double (FP.dadd (FP.i2d (p3 &&& (2147483647 : Int32))) (FP.i2d (p4 &&& (65535 : Int32))))), .second, .val (.ref b1), .val (.ref b5), .val (.ref b11), .unset, .unset, .unset, .unset, .unset] [(.ref b11)])) rfl (by rw [hml]; rfl) (Steps.refl _) (argsL := []) (rest := []) (lenOf pd_1 rfl) rfl (by show 2 * 0 + _ ≤ _; exact Nat.le_of_eq rfl) (hb hby at_85) (fun _ _ => ⟨rfl, rfl, (by decide : 3 + 0 ≤ _), (by decide : 6 + 0 ≤ _)⟩)
  dsimp only [Pt.U, Pt.locs, Pt.cells, Pt.slots] at X21 l21 y21 z21 st21 hQ21
  subst l21 y21 z21
  obtain ⟨rfl, N21q, eh21⟩ := hQ21
  have N21 := Fr.app N14 N21q
  have e21 : T21.heap = T14.heap := eh21
  obtain ⟨cq22, kq22, q22a, q22b, q22c⟩ := isOf hZ e21 f15
  obtain ⟨_, _, ⟨T22, L22, k22, n22⟩, -, X22, ⟨Lc22, hQ22, l22, y22, z22⟩, st22⟩ := X21.virtualBack hx (y := (⟨"com/example/odds_on_counters/oddsoncounters/numeric/Jet", "slopeLows", "()[D"⟩ : MethodName)) (z := (⟨"com/example/odds_on_counters/oddsoncounters/numeric/Jet", "slopeLows", "()[D"⟩ : MethodName)) hown (mvT hZ (hw _ (List.mem_of_getElem? (i := 24) rfl))) (mvT hZ (hw _ (List.mem_of_getElem? (i := 25) rfl))) (notFace_of_selects (args := #[]) (mvT hZ (hw _ (List.mem_of_getElem? (i := 27) rfl)))) (mvT hZ (hw _ (List.mem_of_getElem? (i := 27) rfl))) (mvT hZ (hw _ (List.mem_of_getElem? (i := 26) rfl))) (by decide) (backOf (W := 1) (rm4_r l Z a0 hw [] b11 b1 T14.heap n0 Zs14 f16) hZ (hw _ (List.mem_of_getElem? (i := 28) rfl)) (hw _ (List.mem_of_getElem? (i := 4) rfl)) (by decide) (by decide)) q22a q22c (g := (mkF m 111 #[.val (.int p0), .val (.int p1), .val (.int p2), .val (.int p3), .val (.int p4), .val (.int (1 : Int32)), .val (.double (FP.i2d (p3 &&& (2147483647 : Int32)))), .second, .val (.double (FP.dadd (FP.i2d (p3 &&& (2147483647 : Int32))) (FP.i2d (p4 &&& (65535 : Int32))))), .second, .val (.ref b1), .val (.ref b5), .val (.ref b11), .val (.int (0 : Int32)), .unset, .unset, .unset, .unset] [(.ref b11), (.int (0 : Int32))])) rfl (by rw [hml]; rfl) (Steps.refl _) (argsL := []) (rest := [(.int (0 : Int32))]) (lenOf pd_2 rfl) rfl (by show 2 * 0 + _ ≤ _; exact Nat.le_of_eq rfl) (hb hby at_111) (fun _ _ => ⟨rfl, e21, (by decide : 3 + 0 ≤ _), (by decide : 6 + 0 ≤ _)⟩)
  dsimp only [Pt.U, Pt.locs, Pt.cells, Pt.slots] at X22 l22 y22 z22 st22 hQ22
  subst l22 y22 z22
  obtain ⟨rfl, N22q, eh22⟩ := hQ22
  have N22 := Fr.app N21 N22q
  have e22 : T22.heap = T14.heap := eh22
  obtain ⟨cq23, kq23, q23a, q23b, q23c⟩ := isOf hZ e22 f15
  obtain ⟨_, _, ⟨T23, L23, k23, n23⟩, -, X23, ⟨Lc23, hQ23, l23, y23, z23⟩, st23⟩ := X22.virtualBack hx (y := (⟨"com/example/odds_on_counters/oddsoncounters/numeric/Jet", "slopeLow", "(I)D"⟩ : MethodName)) (z := (⟨"com/example/odds_on_counters/oddsoncounters/numeric/Jet", "slopeLow", "(I)D"⟩ : MethodName)) hown (mvT hZ (hw _ (List.mem_of_getElem? (i := 29) rfl))) (mvT hZ (hw _ (List.mem_of_getElem? (i := 30) rfl))) (notFace_of_selects (args := #[]) (mvT hZ (hw _ (List.mem_of_getElem? (i := 32) rfl)))) (mvT hZ (hw _ (List.mem_of_getElem? (i := 32) rfl))) (mvT hZ (hw _ (List.mem_of_getElem? (i := 31) rfl))) (by decide) (backOf (W := 0) (rm5_0 l Z a0 hw [] b11 b1 k1 (FP.i2d (p1 ||| (1 : Int32))) T14.heap n0 Zs14 f16 f18) hZ (hw _ (List.mem_of_getElem? (i := 33) rfl)) (hw _ (List.mem_of_getElem? (i := 4) rfl)) (by decide) (by decide)) q23a q23c (g := (mkF m 130 #[.val (.int p0), .val (.int p1), .val (.int p2), .val (.int p3), .val (.int p4), .val (.int (1 : Int32)), .val (.double (FP.i2d (p3 &&& (2147483647 : Int32)))), .second, .val (.double (FP.dadd (FP.i2d (p3 &&& (2147483647 : Int32))) (FP.i2d (p4 &&& (65535 : Int32))))), .second, .val (.ref b1), .val (.ref b5), .val (.ref b11), .val (.int (0 : Int32)), .unset, .unset, .unset, .unset] [(.int (0 : Int32)), (.ref b11)])) rfl (by rw [hml]; rfl) (Steps.refl _) (argsL := [(.int (0 : Int32))]) (rest := []) (lenOf pd_3 rfl) rfl (by show 2 * 0 + _ ≤ _; exact Nat.le_of_eq rfl) (hb hby at_130) (fun _ _ => ⟨rfl, e22, (by decide : 3 + 0 ≤ _), (by decide : 6 + 0 ≤ _)⟩)
  dsimp only [Pt.U, Pt.locs, Pt.cells, Pt.slots] at X23 l23 y23 z23 st23 hQ23
  subst l23 y23 z23
  obtain ⟨rfl, N23q, eh23⟩ := hQ23
  have N23 := Fr.app N22 N23q
  have e23 : T23.heap = T14.heap := eh23
  obtain ⟨cq24, kq24, q24a, q24b, q24c⟩ := isOf hZ e23 f15
  obtain ⟨_, _, ⟨T24, L24, k24, n24⟩, -, X24, ⟨Lc24, hQ24, l24, y24, z24⟩, st24⟩ := X23.virtualBack hx (y := (⟨"com/example/odds_on_counters/oddsoncounters/numeric/Jet", "slopeHigh", "(I)D"⟩ : MethodName)) (z := (⟨"com/example/odds_on_counters/oddsoncounters/numeric/Jet", "slopeHigh", "(I)D"⟩ : MethodName)) hown (mvT hZ (hw _ (List.mem_of_getElem? (i := 34) rfl))) (mvT hZ (hw _ (List.mem_of_getElem? (i := 35) rfl))) (notFace_of_selects (args := #[]) (mvT hZ (hw _ (List.mem_of_getElem? (i := 37) rfl)))) (mvT hZ (hw _ (List.mem_of_getElem? (i := 37) rfl))) (mvT hZ (hw _ (List.mem_of_getElem? (i := 36) rfl))) (by decide) (backOf (W := 0) (rm6_0 l Z a0 hw [] b11 b5 k5 (FP.i2d (p2 ||| (1 : Int32))) T14.heap n0 Zs14 f17 f19) hZ (hw _ (List.mem_of_getElem? (i := 38) rfl)) (hw _ (List.mem_of_getElem? (i := 4) rfl)) (by decide) (by decide)) q24a q24c (g := (mkF m 138 #[.val (.int p0), .val (.int p1), .val (.int p2), .val (.int p3), .val (.int p4), .val (.int (1 : Int32)), .val (.double (FP.i2d (p3 &&& (2147483647 : Int32)))), .second, .val (.double (FP.dadd (FP.i2d (p3 &&& (2147483647 : Int32))) (FP.i2d (p4 &&& (65535 : Int32))))), .second, .val (.ref b1), .val (.ref b5), .val (.ref b11), .val (.int (0 : Int32)), .val (.double (FP.i2d (p1 ||| (1 : Int32)))), .second, .unset, .unset] [(.int (0 : Int32)), (.ref b11)])) rfl (by rw [hml]; rfl) (Steps.refl _) (argsL := [(.int (0 : Int32))]) (rest := []) (lenOf pd_3 rfl) rfl (by show 2 * 0 + _ ≤ _; exact Nat.le_of_eq rfl) (hb hby at_138) (fun _ _ => ⟨rfl, e23, (by decide : 3 + 0 ≤ _), (by decide : 6 + 0 ≤ _)⟩)
  dsimp only [Pt.U, Pt.locs, Pt.cells, Pt.slots] at X24 l24 y24 z24 st24 hQ24
  subst l24 y24 z24
  obtain ⟨rfl, N24q, eh24⟩ := hQ24
  have N24 := Fr.app N23 N24q
  have e24 : T24.heap = T14.heap := eh24
  obtain ⟨fs, hr, hrun, hended, hW, hsame⟩ := X24.leave (v := some (.int (1 : Int32))) (fun h => by rw [Bd.returns] at h; cases h)
  refine ⟨_, _, pre0 _ ?_, hrun, hended, _, _, rfl, ?_, ⟨_, rfl⟩, hW, hsame.mono (by decide) (by decide)⟩
  · show Steps p.tables e below (s₁.setTop (mkF m 0 #[.val (.int p0), .val (.int p1), .val (.int p2), .val (.int p3), .val (.int p4), .unset, .unset, .unset, .unset, .unset, .unset, .unset, .unset, .unset, .unset, .unset, .unset, .unset] [])) _
    refine XS.iloadN X0.here hx rfl (hb hby at_0) rfl ?_
    show Steps p.tables e below (s₁.setTop (mkF m 1 #[.val (.int p0), .val (.int p1), .val (.int p2), .val (.int p3), .val (.int p4), .unset, .unset, .unset, .unset, .unset, .unset, .unset, .unset, .unset, .unset, .unset, .unset, .unset] [(.int p0)])) _
    refine XS.iconst X0.here hx rfl (hb hby at_1) ?_
    show Steps p.tables e below (s₁.setTop (mkF m 2 #[.val (.int p0), .val (.int p1), .val (.int p2), .val (.int p3), .val (.int p4), .unset, .unset, .unset, .unset, .unset, .unset, .unset, .unset, .unset, .unset, .unset, .unset, .unset] [(.int (1 : Int32)), (.int p0)])) _
    refine XS.iand X0.here hx rfl (hb hby at_2) rfl ?_
    show Steps p.tables e below (s₁.setTop (mkF m 3 #[.val (.int p0), .val (.int p1), .val (.int p2), .val (.int p3), .val (.int p4), .unset, .unset, .unset, .unset, .unset, .unset, .unset, .unset, .unset, .unset, .unset, .unset, .unset] [(.int (p0 &&& (1 : Int32)))])) _
    refine XS.ifNo X0.here hx rfl (hb hby at_3) rfl ((if0 _ _).trans (feq hc3).1) ?_
    show Steps p.tables e below (s₁.setTop (mkF m 6 #[.val (.int p0), .val (.int p1), .val (.int p2), .val (.int p3), .val (.int p4), .unset, .unset, .unset, .unset, .unset, .unset, .unset, .unset, .unset, .unset, .unset, .unset, .unset] [])) _
    refine XS.iconst X0.here hx rfl (hb hby at_6) ?_
    show Steps p.tables e below (s₁.setTop (mkF m 7 #[.val (.int p0), .val (.int p1), .val (.int p2), .val (.int p3), .val (.int p4), .unset, .unset, .unset, .unset, .unset, .unset, .unset, .unset, .unset, .unset, .unset, .unset, .unset] [(.int (1 : Int32))])) _
    refine XS.goto X0.here hx rfl (pc0 := 7) (pc' := 11) rfl (hb hby at_7) (by decide) (by decide) ?_
    show Steps p.tables e below (s₁.setTop (mkF m 11 #[.val (.int p0), .val (.int p1), .val (.int p2), .val (.int p3), .val (.int p4), .unset, .unset, .unset, .unset, .unset, .unset, .unset, .unset, .unset, .unset, .unset, .unset, .unset] [(.int (1 : Int32))])) _
    refine XS.istore X0.here hx rfl (hb hby at_11) rfl (l' := #[.val (.int p0), .val (.int p1), .val (.int p2), .val (.int p3), .val (.int p4), .val (.int (1 : Int32)), .unset, .unset, .unset, .unset, .unset, .unset, .unset, .unset, .unset, .unset, .unset, .unset]) rfl ?_
    show Steps p.tables e below (s₁.setTop (mkF m 13 #[.val (.int p0), .val (.int p1), .val (.int p2), .val (.int p3), .val (.int p4), .val (.int (1 : Int32)), .unset, .unset, .unset, .unset, .unset, .unset, .unset, .unset, .unset, .unset, .unset, .unset] [])) _
    refine XS.iloadN X0.here hx rfl (hb hby at_13) rfl ?_
    show Steps p.tables e below (s₁.setTop (mkF m 14 #[.val (.int p0), .val (.int p1), .val (.int p2), .val (.int p3), .val (.int p4), .val (.int (1 : Int32)), .unset, .unset, .unset, .unset, .unset, .unset, .unset, .unset, .unset, .unset, .unset, .unset] [(.int p3)])) _
    refine X0.ldcInt hx hown (mvT hZ (hw _ (List.mem_of_getElem? (i := 0) rfl))) (g := (mkF m 14 #[.val (.int p0), .val (.int p1), .val (.int p2), .val (.int p3), .val (.int p4), .val (.int (1 : Int32)), .unset, .unset, .unset, .unset, .unset, .unset, .unset, .unset, .unset, .unset, .unset, .unset] [(.int p3)])) rfl (hb hby at_14) _ ?_
    show Steps p.tables e below (s₁.setTop (mkF m 16 #[.val (.int p0), .val (.int p1), .val (.int p2), .val (.int p3), .val (.int p4), .val (.int (1 : Int32)), .unset, .unset, .unset, .unset, .unset, .unset, .unset, .unset, .unset, .unset, .unset, .unset] [(.int (2147483647 : Int32)), (.int p3)])) _
    refine XS.iand X0.here hx rfl (hb hby at_16) rfl ?_
    show Steps p.tables e below (s₁.setTop (mkF m 17 #[.val (.int p0), .val (.int p1), .val (.int p2), .val (.int p3), .val (.int p4), .val (.int (1 : Int32)), .unset, .unset, .unset, .unset, .unset, .unset, .unset, .unset, .unset, .unset, .unset, .unset] [(.int (p3 &&& (2147483647 : Int32)))])) _
    refine XS.i2dS X0.here hx rfl (hb hby at_17) rfl (v := (FP.i2d (p3 &&& (2147483647 : Int32)))) rfl ?_
    show Steps p.tables e below (s₁.setTop (mkF m 18 #[.val (.int p0), .val (.int p1), .val (.int p2), .val (.int p3), .val (.int p4), .val (.int (1 : Int32)), .unset, .unset, .unset, .unset, .unset, .unset, .unset, .unset, .unset, .unset, .unset, .unset] [(.double (FP.i2d (p3 &&& (2147483647 : Int32))))])) _
    refine XS.dstore X0.here hx rfl (hb hby at_18) rfl (l' := #[.val (.int p0), .val (.int p1), .val (.int p2), .val (.int p3), .val (.int p4), .val (.int (1 : Int32)), .val (.double (FP.i2d (p3 &&& (2147483647 : Int32)))), .second, .unset, .unset, .unset, .unset, .unset, .unset, .unset, .unset, .unset, .unset]) rfl ?_
    show Steps p.tables e below (s₁.setTop (mkF m 20 #[.val (.int p0), .val (.int p1), .val (.int p2), .val (.int p3), .val (.int p4), .val (.int (1 : Int32)), .val (.double (FP.i2d (p3 &&& (2147483647 : Int32)))), .second, .unset, .unset, .unset, .unset, .unset, .unset, .unset, .unset, .unset, .unset] [])) _
    refine XS.dload X0.here hx rfl (hb hby at_20) rfl ?_
    show Steps p.tables e below (s₁.setTop (mkF m 22 #[.val (.int p0), .val (.int p1), .val (.int p2), .val (.int p3), .val (.int p4), .val (.int (1 : Int32)), .val (.double (FP.i2d (p3 &&& (2147483647 : Int32)))), .second, .unset, .unset, .unset, .unset, .unset, .unset, .unset, .unset, .unset, .unset] [(.double (FP.i2d (p3 &&& (2147483647 : Int32))))])) _
    refine XS.iload X0.here hx rfl (hb hby at_22) rfl ?_
    show Steps p.tables e below (s₁.setTop (mkF m 24 #[.val (.int p0), .val (.int p1), .val (.int p2), .val (.int p3), .val (.int p4), .val (.int (1 : Int32)), .val (.double (FP.i2d (p3 &&& (2147483647 : Int32)))), .second, .unset, .unset, .unset, .unset, .unset, .unset, .unset, .unset, .unset, .unset] [(.int p4), (.double (FP.i2d (p3 &&& (2147483647 : Int32))))])) _
    refine X0.ldcInt hx hown (mvT hZ (hw _ (List.mem_of_getElem? (i := 1) rfl))) (g := (mkF m 24 #[.val (.int p0), .val (.int p1), .val (.int p2), .val (.int p3), .val (.int p4), .val (.int (1 : Int32)), .val (.double (FP.i2d (p3 &&& (2147483647 : Int32)))), .second, .unset, .unset, .unset, .unset, .unset, .unset, .unset, .unset, .unset, .unset] [(.int p4), (.double (FP.i2d (p3 &&& (2147483647 : Int32))))])) rfl (hb hby at_24) _ ?_
    show Steps p.tables e below (s₁.setTop (mkF m 26 #[.val (.int p0), .val (.int p1), .val (.int p2), .val (.int p3), .val (.int p4), .val (.int (1 : Int32)), .val (.double (FP.i2d (p3 &&& (2147483647 : Int32)))), .second, .unset, .unset, .unset, .unset, .unset, .unset, .unset, .unset, .unset, .unset] [(.int (65535 : Int32)), (.int p4), (.double (FP.i2d (p3 &&& (2147483647 : Int32))))])) _
    refine XS.iand X0.here hx rfl (hb hby at_26) rfl ?_
    show Steps p.tables e below (s₁.setTop (mkF m 27 #[.val (.int p0), .val (.int p1), .val (.int p2), .val (.int p3), .val (.int p4), .val (.int (1 : Int32)), .val (.double (FP.i2d (p3 &&& (2147483647 : Int32)))), .second, .unset, .unset, .unset, .unset, .unset, .unset, .unset, .unset, .unset, .unset] [(.int (p4 &&& (65535 : Int32))), (.double (FP.i2d (p3 &&& (2147483647 : Int32))))])) _
    refine XS.i2dS X0.here hx rfl (hb hby at_27) rfl (v := (FP.i2d (p4 &&& (65535 : Int32)))) rfl ?_
    show Steps p.tables e below (s₁.setTop (mkF m 28 #[.val (.int p0), .val (.int p1), .val (.int p2), .val (.int p3), .val (.int p4), .val (.int (1 : Int32)), .val (.double (FP.i2d (p3 &&& (2147483647 : Int32)))), .second, .unset, .unset, .unset, .unset, .unset, .unset, .unset, .unset, .unset, .unset] [(.double (FP.i2d (p4 &&& (65535 : Int32)))), (.double (FP.i2d (p3 &&& (2147483647 : Int32))))])) _
    refine XS.daddS X0.here hx rfl (hb hby at_28) rfl nn28 (v := (FP.dadd (FP.i2d (p3 &&& (2147483647 : Int32))) (FP.i2d (p4 &&& (65535 : Int32))))) rfl ?_
    show Steps p.tables e below (s₁.setTop (mkF m 29 #[.val (.int p0), .val (.int p1), .val (.int p2), .val (.int p3), .val (.int p4), .val (.int (1 : Int32)), .val (.double (FP.i2d (p3 &&& (2147483647 : Int32)))), .second, .unset, .unset, .unset, .unset, .unset, .unset, .unset, .unset, .unset, .unset] [(.double (FP.dadd (FP.i2d (p3 &&& (2147483647 : Int32))) (FP.i2d (p4 &&& (65535 : Int32)))))])) _
    refine XS.dstore X0.here hx rfl (hb hby at_29) rfl (l' := #[.val (.int p0), .val (.int p1), .val (.int p2), .val (.int p3), .val (.int p4), .val (.int (1 : Int32)), .val (.double (FP.i2d (p3 &&& (2147483647 : Int32)))), .second, .val (.double (FP.dadd (FP.i2d (p3 &&& (2147483647 : Int32))) (FP.i2d (p4 &&& (65535 : Int32))))), .second, .unset, .unset, .unset, .unset, .unset, .unset, .unset, .unset]) rfl ?_
    show Steps p.tables e below (s₁.setTop (mkF m 31 #[.val (.int p0), .val (.int p1), .val (.int p2), .val (.int p3), .val (.int p4), .val (.int (1 : Int32)), .val (.double (FP.i2d (p3 &&& (2147483647 : Int32)))), .second, .val (.double (FP.dadd (FP.i2d (p3 &&& (2147483647 : Int32))) (FP.i2d (p4 &&& (65535 : Int32))))), .second, .unset, .unset, .unset, .unset, .unset, .unset, .unset, .unset] [])) _
    refine XS.aconstNull X0.here hx rfl (hb hby at_31) ?_
    show Steps p.tables e below (s₁.setTop (mkF m 32 #[.val (.int p0), .val (.int p1), .val (.int p2), .val (.int p3), .val (.int p4), .val (.int (1 : Int32)), .val (.double (FP.i2d (p3 &&& (2147483647 : Int32)))), .second, .val (.double (FP.dadd (FP.i2d (p3 &&& (2147483647 : Int32))) (FP.i2d (p4 &&& (65535 : Int32))))), .second, .unset, .unset, .unset, .unset, .unset, .unset, .unset, .unset] [.null])) _
    refine XS.astore X0.here hx rfl (hb hby at_32) rfl rfl (l' := #[.val (.int p0), .val (.int p1), .val (.int p2), .val (.int p3), .val (.int p4), .val (.int (1 : Int32)), .val (.double (FP.i2d (p3 &&& (2147483647 : Int32)))), .second, .val (.double (FP.dadd (FP.i2d (p3 &&& (2147483647 : Int32))) (FP.i2d (p4 &&& (65535 : Int32))))), .second, .val .null, .unset, .unset, .unset, .unset, .unset, .unset, .unset]) rfl ?_
    show Steps p.tables e below (s₁.setTop (mkF m 34 #[.val (.int p0), .val (.int p1), .val (.int p2), .val (.int p3), .val (.int p4), .val (.int (1 : Int32)), .val (.double (FP.i2d (p3 &&& (2147483647 : Int32)))), .second, .val (.double (FP.dadd (FP.i2d (p3 &&& (2147483647 : Int32))) (FP.i2d (p4 &&& (65535 : Int32))))), .second, .val .null, .unset, .unset, .unset, .unset, .unset, .unset, .unset] [])) _
    refine XS.aconstNull X0.here hx rfl (hb hby at_34) ?_
    show Steps p.tables e below (s₁.setTop (mkF m 35 #[.val (.int p0), .val (.int p1), .val (.int p2), .val (.int p3), .val (.int p4), .val (.int (1 : Int32)), .val (.double (FP.i2d (p3 &&& (2147483647 : Int32)))), .second, .val (.double (FP.dadd (FP.i2d (p3 &&& (2147483647 : Int32))) (FP.i2d (p4 &&& (65535 : Int32))))), .second, .val .null, .unset, .unset, .unset, .unset, .unset, .unset, .unset] [.null])) _
    refine XS.astore X0.here hx rfl (hb hby at_35) rfl rfl (l' := #[.val (.int p0), .val (.int p1), .val (.int p2), .val (.int p3), .val (.int p4), .val (.int (1 : Int32)), .val (.double (FP.i2d (p3 &&& (2147483647 : Int32)))), .second, .val (.double (FP.dadd (FP.i2d (p3 &&& (2147483647 : Int32))) (FP.i2d (p4 &&& (65535 : Int32))))), .second, .val .null, .val .null, .unset, .unset, .unset, .unset, .unset, .unset]) rfl ?_
    show Steps p.tables e below (s₁.setTop (mkF m 37 #[.val (.int p0), .val (.int p1), .val (.int p2), .val (.int p3), .val (.int p4), .val (.int (1 : Int32)), .val (.double (FP.i2d (p3 &&& (2147483647 : Int32)))), .second, .val (.double (FP.dadd (FP.i2d (p3 &&& (2147483647 : Int32))) (FP.i2d (p4 &&& (65535 : Int32))))), .second, .val .null, .val .null, .unset, .unset, .unset, .unset, .unset, .unset] [])) _
    refine XS.iload X0.here hx rfl (hb hby at_37) rfl ?_
    show Steps p.tables e below (s₁.setTop (mkF m 39 #[.val (.int p0), .val (.int p1), .val (.int p2), .val (.int p3), .val (.int p4), .val (.int (1 : Int32)), .val (.double (FP.i2d (p3 &&& (2147483647 : Int32)))), .second, .val (.double (FP.dadd (FP.i2d (p3 &&& (2147483647 : Int32))) (FP.i2d (p4 &&& (65535 : Int32))))), .second, .val .null, .val .null, .unset, .unset, .unset, .unset, .unset, .unset] [(.int (1 : Int32))])) _
    refine XS.ifNo X0.here hx rfl (hb hby at_39) rfl ((if0 _ _).trans (feq (by decide : ¬ ((1 : Int32) = (0 : Int32)))).1) ?_
    show Steps p.tables e below (s₁.setTop (mkF m 42 #[.val (.int p0), .val (.int p1), .val (.int p2), .val (.int p3), .val (.int p4), .val (.int (1 : Int32)), .val (.double (FP.i2d (p3 &&& (2147483647 : Int32)))), .second, .val (.double (FP.dadd (FP.i2d (p3 &&& (2147483647 : Int32))) (FP.i2d (p4 &&& (65535 : Int32))))), .second, .val .null, .val .null, .unset, .unset, .unset, .unset, .unset, .unset] [])) _
    refine XS.iconst X0.here hx rfl (hb hby at_42) ?_
    show Steps p.tables e below (s₁.setTop (mkF m 43 #[.val (.int p0), .val (.int p1), .val (.int p2), .val (.int p3), .val (.int p4), .val (.int (1 : Int32)), .val (.double (FP.i2d (p3 &&& (2147483647 : Int32)))), .second, .val (.double (FP.dadd (FP.i2d (p3 &&& (2147483647 : Int32))) (FP.i2d (p4 &&& (65535 : Int32))))), .second, .val .null, .val .null, .unset, .unset, .unset, .unset, .unset, .unset] [(.int (1 : Int32))])) _
    refine st1 _ ?_
    show Steps p.tables e below (T1.setTop (mkF m 45 #[.val (.int p0), .val (.int p1), .val (.int p2), .val (.int p3), .val (.int p4), .val (.int (1 : Int32)), .val (.double (FP.i2d (p3 &&& (2147483647 : Int32)))), .second, .val (.double (FP.dadd (FP.i2d (p3 &&& (2147483647 : Int32))) (FP.i2d (p4 &&& (65535 : Int32))))), .second, .val .null, .val .null, .unset, .unset, .unset, .unset, .unset, .unset] [(.ref b1)])) _
    refine XS.dup X1.here hx rfl (hb hby at_45) rfl rfl ?_
    show Steps p.tables e below (T1.setTop (mkF m 46 #[.val (.int p0), .val (.int p1), .val (.int p2), .val (.int p3), .val (.int p4), .val (.int (1 : Int32)), .val (.double (FP.i2d (p3 &&& (2147483647 : Int32)))), .second, .val (.double (FP.dadd (FP.i2d (p3 &&& (2147483647 : Int32))) (FP.i2d (p4 &&& (65535 : Int32))))), .second, .val .null, .val .null, .unset, .unset, .unset, .unset, .unset, .unset] [(.ref b1), (.ref b1)])) _
    refine XS.iconst X1.here hx rfl (hb hby at_46) ?_
    show Steps p.tables e below (T1.setTop (mkF m 47 #[.val (.int p0), .val (.int p1), .val (.int p2), .val (.int p3), .val (.int p4), .val (.int (1 : Int32)), .val (.double (FP.i2d (p3 &&& (2147483647 : Int32)))), .second, .val (.double (FP.dadd (FP.i2d (p3 &&& (2147483647 : Int32))) (FP.i2d (p4 &&& (65535 : Int32))))), .second, .val .null, .val .null, .unset, .unset, .unset, .unset, .unset, .unset] [(.int (0 : Int32)), (.ref b1), (.ref b1)])) _
    refine XS.iloadN X1.here hx rfl (hb hby at_47) rfl ?_
    show Steps p.tables e below (T1.setTop (mkF m 48 #[.val (.int p0), .val (.int p1), .val (.int p2), .val (.int p3), .val (.int p4), .val (.int (1 : Int32)), .val (.double (FP.i2d (p3 &&& (2147483647 : Int32)))), .second, .val (.double (FP.dadd (FP.i2d (p3 &&& (2147483647 : Int32))) (FP.i2d (p4 &&& (65535 : Int32))))), .second, .val .null, .val .null, .unset, .unset, .unset, .unset, .unset, .unset] [(.int p1), (.int (0 : Int32)), (.ref b1), (.ref b1)])) _
    refine XS.iconst X1.here hx rfl (hb hby at_48) ?_
    show Steps p.tables e below (T1.setTop (mkF m 49 #[.val (.int p0), .val (.int p1), .val (.int p2), .val (.int p3), .val (.int p4), .val (.int (1 : Int32)), .val (.double (FP.i2d (p3 &&& (2147483647 : Int32)))), .second, .val (.double (FP.dadd (FP.i2d (p3 &&& (2147483647 : Int32))) (FP.i2d (p4 &&& (65535 : Int32))))), .second, .val .null, .val .null, .unset, .unset, .unset, .unset, .unset, .unset] [(.int (1 : Int32)), (.int p1), (.int (0 : Int32)), (.ref b1), (.ref b1)])) _
    refine XS.ior X1.here hx rfl (hb hby at_49) rfl ?_
    show Steps p.tables e below (T1.setTop (mkF m 50 #[.val (.int p0), .val (.int p1), .val (.int p2), .val (.int p3), .val (.int p4), .val (.int (1 : Int32)), .val (.double (FP.i2d (p3 &&& (2147483647 : Int32)))), .second, .val (.double (FP.dadd (FP.i2d (p3 &&& (2147483647 : Int32))) (FP.i2d (p4 &&& (65535 : Int32))))), .second, .val .null, .val .null, .unset, .unset, .unset, .unset, .unset, .unset] [(.int (p1 ||| (1 : Int32))), (.int (0 : Int32)), (.ref b1), (.ref b1)])) _
    refine XS.i2dS X1.here hx rfl (hb hby at_50) rfl (v := (FP.i2d (p1 ||| (1 : Int32)))) rfl ?_
    show Steps p.tables e below (T1.setTop (mkF m 51 #[.val (.int p0), .val (.int p1), .val (.int p2), .val (.int p3), .val (.int p4), .val (.int (1 : Int32)), .val (.double (FP.i2d (p3 &&& (2147483647 : Int32)))), .second, .val (.double (FP.dadd (FP.i2d (p3 &&& (2147483647 : Int32))) (FP.i2d (p4 &&& (65535 : Int32))))), .second, .val .null, .val .null, .unset, .unset, .unset, .unset, .unset, .unset] [(.double (FP.i2d (p1 ||| (1 : Int32)))), (.int (0 : Int32)), (.ref b1), (.ref b1)])) _
    refine st3 _ ?_
    show Steps p.tables e below (T3.setTop (mkF m 52 #[.val (.int p0), .val (.int p1), .val (.int p2), .val (.int p3), .val (.int p4), .val (.int (1 : Int32)), .val (.double (FP.i2d (p3 &&& (2147483647 : Int32)))), .second, .val (.double (FP.dadd (FP.i2d (p3 &&& (2147483647 : Int32))) (FP.i2d (p4 &&& (65535 : Int32))))), .second, .val .null, .val .null, .unset, .unset, .unset, .unset, .unset, .unset] [(.ref b1)])) _
    refine XS.astore X3.here hx rfl (hb hby at_52) rfl rfl (l' := #[.val (.int p0), .val (.int p1), .val (.int p2), .val (.int p3), .val (.int p4), .val (.int (1 : Int32)), .val (.double (FP.i2d (p3 &&& (2147483647 : Int32)))), .second, .val (.double (FP.dadd (FP.i2d (p3 &&& (2147483647 : Int32))) (FP.i2d (p4 &&& (65535 : Int32))))), .second, .val (.ref b1), .val .null, .unset, .unset, .unset, .unset, .unset, .unset]) rfl ?_
    show Steps p.tables e below (T3.setTop (mkF m 54 #[.val (.int p0), .val (.int p1), .val (.int p2), .val (.int p3), .val (.int p4), .val (.int (1 : Int32)), .val (.double (FP.i2d (p3 &&& (2147483647 : Int32)))), .second, .val (.double (FP.dadd (FP.i2d (p3 &&& (2147483647 : Int32))) (FP.i2d (p4 &&& (65535 : Int32))))), .second, .val (.ref b1), .val .null, .unset, .unset, .unset, .unset, .unset, .unset] [])) _
    refine XS.iconst X3.here hx rfl (hb hby at_54) ?_
    show Steps p.tables e below (T3.setTop (mkF m 55 #[.val (.int p0), .val (.int p1), .val (.int p2), .val (.int p3), .val (.int p4), .val (.int (1 : Int32)), .val (.double (FP.i2d (p3 &&& (2147483647 : Int32)))), .second, .val (.double (FP.dadd (FP.i2d (p3 &&& (2147483647 : Int32))) (FP.i2d (p4 &&& (65535 : Int32))))), .second, .val (.ref b1), .val .null, .unset, .unset, .unset, .unset, .unset, .unset] [(.int (1 : Int32))])) _
    refine st5 _ ?_
    show Steps p.tables e below (T5.setTop (mkF m 57 #[.val (.int p0), .val (.int p1), .val (.int p2), .val (.int p3), .val (.int p4), .val (.int (1 : Int32)), .val (.double (FP.i2d (p3 &&& (2147483647 : Int32)))), .second, .val (.double (FP.dadd (FP.i2d (p3 &&& (2147483647 : Int32))) (FP.i2d (p4 &&& (65535 : Int32))))), .second, .val (.ref b1), .val .null, .unset, .unset, .unset, .unset, .unset, .unset] [(.ref b5)])) _
    refine XS.dup X5.here hx rfl (hb hby at_57) rfl rfl ?_
    show Steps p.tables e below (T5.setTop (mkF m 58 #[.val (.int p0), .val (.int p1), .val (.int p2), .val (.int p3), .val (.int p4), .val (.int (1 : Int32)), .val (.double (FP.i2d (p3 &&& (2147483647 : Int32)))), .second, .val (.double (FP.dadd (FP.i2d (p3 &&& (2147483647 : Int32))) (FP.i2d (p4 &&& (65535 : Int32))))), .second, .val (.ref b1), .val .null, .unset, .unset, .unset, .unset, .unset, .unset] [(.ref b5), (.ref b5)])) _
    refine XS.iconst X5.here hx rfl (hb hby at_58) ?_
    show Steps p.tables e below (T5.setTop (mkF m 59 #[.val (.int p0), .val (.int p1), .val (.int p2), .val (.int p3), .val (.int p4), .val (.int (1 : Int32)), .val (.double (FP.i2d (p3 &&& (2147483647 : Int32)))), .second, .val (.double (FP.dadd (FP.i2d (p3 &&& (2147483647 : Int32))) (FP.i2d (p4 &&& (65535 : Int32))))), .second, .val (.ref b1), .val .null, .unset, .unset, .unset, .unset, .unset, .unset] [(.int (0 : Int32)), (.ref b5), (.ref b5)])) _
    refine XS.iloadN X5.here hx rfl (hb hby at_59) rfl ?_
    show Steps p.tables e below (T5.setTop (mkF m 60 #[.val (.int p0), .val (.int p1), .val (.int p2), .val (.int p3), .val (.int p4), .val (.int (1 : Int32)), .val (.double (FP.i2d (p3 &&& (2147483647 : Int32)))), .second, .val (.double (FP.dadd (FP.i2d (p3 &&& (2147483647 : Int32))) (FP.i2d (p4 &&& (65535 : Int32))))), .second, .val (.ref b1), .val .null, .unset, .unset, .unset, .unset, .unset, .unset] [(.int p2), (.int (0 : Int32)), (.ref b5), (.ref b5)])) _
    refine XS.iconst X5.here hx rfl (hb hby at_60) ?_
    show Steps p.tables e below (T5.setTop (mkF m 61 #[.val (.int p0), .val (.int p1), .val (.int p2), .val (.int p3), .val (.int p4), .val (.int (1 : Int32)), .val (.double (FP.i2d (p3 &&& (2147483647 : Int32)))), .second, .val (.double (FP.dadd (FP.i2d (p3 &&& (2147483647 : Int32))) (FP.i2d (p4 &&& (65535 : Int32))))), .second, .val (.ref b1), .val .null, .unset, .unset, .unset, .unset, .unset, .unset] [(.int (1 : Int32)), (.int p2), (.int (0 : Int32)), (.ref b5), (.ref b5)])) _
    refine XS.ior X5.here hx rfl (hb hby at_61) rfl ?_
    show Steps p.tables e below (T5.setTop (mkF m 62 #[.val (.int p0), .val (.int p1), .val (.int p2), .val (.int p3), .val (.int p4), .val (.int (1 : Int32)), .val (.double (FP.i2d (p3 &&& (2147483647 : Int32)))), .second, .val (.double (FP.dadd (FP.i2d (p3 &&& (2147483647 : Int32))) (FP.i2d (p4 &&& (65535 : Int32))))), .second, .val (.ref b1), .val .null, .unset, .unset, .unset, .unset, .unset, .unset] [(.int (p2 ||| (1 : Int32))), (.int (0 : Int32)), (.ref b5), (.ref b5)])) _
    refine XS.i2dS X5.here hx rfl (hb hby at_62) rfl (v := (FP.i2d (p2 ||| (1 : Int32)))) rfl ?_
    show Steps p.tables e below (T5.setTop (mkF m 63 #[.val (.int p0), .val (.int p1), .val (.int p2), .val (.int p3), .val (.int p4), .val (.int (1 : Int32)), .val (.double (FP.i2d (p3 &&& (2147483647 : Int32)))), .second, .val (.double (FP.dadd (FP.i2d (p3 &&& (2147483647 : Int32))) (FP.i2d (p4 &&& (65535 : Int32))))), .second, .val (.ref b1), .val .null, .unset, .unset, .unset, .unset, .unset, .unset] [(.double (FP.i2d (p2 ||| (1 : Int32)))), (.int (0 : Int32)), (.ref b5), (.ref b5)])) _
    refine st8 _ ?_
    show Steps p.tables e below (T8.setTop (mkF m 64 #[.val (.int p0), .val (.int p1), .val (.int p2), .val (.int p3), .val (.int p4), .val (.int (1 : Int32)), .val (.double (FP.i2d (p3 &&& (2147483647 : Int32)))), .second, .val (.double (FP.dadd (FP.i2d (p3 &&& (2147483647 : Int32))) (FP.i2d (p4 &&& (65535 : Int32))))), .second, .val (.ref b1), .val .null, .unset, .unset, .unset, .unset, .unset, .unset] [(.ref b5)])) _
    refine XS.astore X8.here hx rfl (hb hby at_64) rfl rfl (l' := #[.val (.int p0), .val (.int p1), .val (.int p2), .val (.int p3), .val (.int p4), .val (.int (1 : Int32)), .val (.double (FP.i2d (p3 &&& (2147483647 : Int32)))), .second, .val (.double (FP.dadd (FP.i2d (p3 &&& (2147483647 : Int32))) (FP.i2d (p4 &&& (65535 : Int32))))), .second, .val (.ref b1), .val (.ref b5), .unset, .unset, .unset, .unset, .unset, .unset]) rfl ?_
    show Steps p.tables e below (T8.setTop (mkF m 66 #[.val (.int p0), .val (.int p1), .val (.int p2), .val (.int p3), .val (.int p4), .val (.int (1 : Int32)), .val (.double (FP.i2d (p3 &&& (2147483647 : Int32)))), .second, .val (.double (FP.dadd (FP.i2d (p3 &&& (2147483647 : Int32))) (FP.i2d (p4 &&& (65535 : Int32))))), .second, .val (.ref b1), .val (.ref b5), .unset, .unset, .unset, .unset, .unset, .unset] [])) _
    refine st11 _ ?_
    show Steps p.tables e below (T11.setTop (mkF m 69 #[.val (.int p0), .val (.int p1), .val (.int p2), .val (.int p3), .val (.int p4), .val (.int (1 : Int32)), .val (.double (FP.i2d (p3 &&& (2147483647 : Int32)))), .second, .val (.double (FP.dadd (FP.i2d (p3 &&& (2147483647 : Int32))) (FP.i2d (p4 &&& (65535 : Int32))))), .second, .val (.ref b1), .val (.ref b5), .unset, .unset, .unset, .unset, .unset, .unset] [(.ref b11)])) _
    refine XS.dup X11.here hx rfl (hb hby at_69) rfl rfl ?_
    show Steps p.tables e below (T11.setTop (mkF m 70 #[.val (.int p0), .val (.int p1), .val (.int p2), .val (.int p3), .val (.int p4), .val (.int (1 : Int32)), .val (.double (FP.i2d (p3 &&& (2147483647 : Int32)))), .second, .val (.double (FP.dadd (FP.i2d (p3 &&& (2147483647 : Int32))) (FP.i2d (p4 &&& (65535 : Int32))))), .second, .val (.ref b1), .val (.ref b5), .unset, .unset, .unset, .unset, .unset, .unset] [(.ref b11), (.ref b11)])) _
    refine XS.dload X11.here hx rfl (hb hby at_70) rfl ?_
    show Steps p.tables e below (T11.setTop (mkF m 72 #[.val (.int p0), .val (.int p1), .val (.int p2), .val (.int p3), .val (.int p4), .val (.int (1 : Int32)), .val (.double (FP.i2d (p3 &&& (2147483647 : Int32)))), .second, .val (.double (FP.dadd (FP.i2d (p3 &&& (2147483647 : Int32))) (FP.i2d (p4 &&& (65535 : Int32))))), .second, .val (.ref b1), .val (.ref b5), .unset, .unset, .unset, .unset, .unset, .unset] [(.double (FP.i2d (p3 &&& (2147483647 : Int32)))), (.ref b11), (.ref b11)])) _
    refine XS.dload X11.here hx rfl (hb hby at_72) rfl ?_
    show Steps p.tables e below (T11.setTop (mkF m 74 #[.val (.int p0), .val (.int p1), .val (.int p2), .val (.int p3), .val (.int p4), .val (.int (1 : Int32)), .val (.double (FP.i2d (p3 &&& (2147483647 : Int32)))), .second, .val (.double (FP.dadd (FP.i2d (p3 &&& (2147483647 : Int32))) (FP.i2d (p4 &&& (65535 : Int32))))), .second, .val (.ref b1), .val (.ref b5), .unset, .unset, .unset, .unset, .unset, .unset] [(.double (FP.dadd (FP.i2d (p3 &&& (2147483647 : Int32))) (FP.i2d (p4 &&& (65535 : Int32))))), (.double (FP.i2d (p3 &&& (2147483647 : Int32)))), (.ref b11), (.ref b11)])) _
    refine XS.aload X11.here hx rfl (hb hby at_74) rfl rfl ?_
    show Steps p.tables e below (T11.setTop (mkF m 76 #[.val (.int p0), .val (.int p1), .val (.int p2), .val (.int p3), .val (.int p4), .val (.int (1 : Int32)), .val (.double (FP.i2d (p3 &&& (2147483647 : Int32)))), .second, .val (.double (FP.dadd (FP.i2d (p3 &&& (2147483647 : Int32))) (FP.i2d (p4 &&& (65535 : Int32))))), .second, .val (.ref b1), .val (.ref b5), .unset, .unset, .unset, .unset, .unset, .unset] [(.ref b1), (.double (FP.dadd (FP.i2d (p3 &&& (2147483647 : Int32))) (FP.i2d (p4 &&& (65535 : Int32))))), (.double (FP.i2d (p3 &&& (2147483647 : Int32)))), (.ref b11), (.ref b11)])) _
    refine XS.aload X11.here hx rfl (hb hby at_76) rfl rfl ?_
    show Steps p.tables e below (T11.setTop (mkF m 78 #[.val (.int p0), .val (.int p1), .val (.int p2), .val (.int p3), .val (.int p4), .val (.int (1 : Int32)), .val (.double (FP.i2d (p3 &&& (2147483647 : Int32)))), .second, .val (.double (FP.dadd (FP.i2d (p3 &&& (2147483647 : Int32))) (FP.i2d (p4 &&& (65535 : Int32))))), .second, .val (.ref b1), .val (.ref b5), .unset, .unset, .unset, .unset, .unset, .unset] [(.ref b5), (.ref b1), (.double (FP.dadd (FP.i2d (p3 &&& (2147483647 : Int32))) (FP.i2d (p4 &&& (65535 : Int32))))), (.double (FP.i2d (p3 &&& (2147483647 : Int32)))), (.ref b11), (.ref b11)])) _
    refine st14.trans ?_
    show Steps p.tables e below (T14.setTop (mkF m 81 #[.val (.int p0), .val (.int p1), .val (.int p2), .val (.int p3), .val (.int p4), .val (.int (1 : Int32)), .val (.double (FP.i2d (p3 &&& (2147483647 : Int32)))), .second, .val (.double (FP.dadd (FP.i2d (p3 &&& (2147483647 : Int32))) (FP.i2d (p4 &&& (65535 : Int32))))), .second, .val (.ref b1), .val (.ref b5), .unset, .unset, .unset, .unset, .unset, .unset] [(.ref b11)])) _
    refine XS.astore X14.here hx rfl (hb hby at_81) rfl rfl (l' := #[.val (.int p0), .val (.int p1), .val (.int p2), .val (.int p3), .val (.int p4), .val (.int (1 : Int32)), .val (.double (FP.i2d (p3 &&& (2147483647 : Int32)))), .second, .val (.double (FP.dadd (FP.i2d (p3 &&& (2147483647 : Int32))) (FP.i2d (p4 &&& (65535 : Int32))))), .second, .val (.ref b1), .val (.ref b5), .val (.ref b11), .unset, .unset, .unset, .unset, .unset]) rfl ?_
    show Steps p.tables e below (T14.setTop (mkF m 83 #[.val (.int p0), .val (.int p1), .val (.int p2), .val (.int p3), .val (.int p4), .val (.int (1 : Int32)), .val (.double (FP.i2d (p3 &&& (2147483647 : Int32)))), .second, .val (.double (FP.dadd (FP.i2d (p3 &&& (2147483647 : Int32))) (FP.i2d (p4 &&& (65535 : Int32))))), .second, .val (.ref b1), .val (.ref b5), .val (.ref b11), .unset, .unset, .unset, .unset, .unset] [])) _
    refine XS.aload X14.here hx rfl (hb hby at_83) rfl rfl ?_
    show Steps p.tables e below (T14.setTop (mkF m 85 #[.val (.int p0), .val (.int p1), .val (.int p2), .val (.int p3), .val (.int p4), .val (.int (1 : Int32)), .val (.double (FP.i2d (p3 &&& (2147483647 : Int32)))), .second, .val (.double (FP.dadd (FP.i2d (p3 &&& (2147483647 : Int32))) (FP.i2d (p4 &&& (65535 : Int32))))), .second, .val (.ref b1), .val (.ref b5), .val (.ref b11), .unset, .unset, .unset, .unset, .unset] [(.ref b11)])) _
    refine st21.trans ?_
    show Steps p.tables e below (T21.setTop (mkF m 88 #[.val (.int p0), .val (.int p1), .val (.int p2), .val (.int p3), .val (.int p4), .val (.int (1 : Int32)), .val (.double (FP.i2d (p3 &&& (2147483647 : Int32)))), .second, .val (.double (FP.dadd (FP.i2d (p3 &&& (2147483647 : Int32))) (FP.i2d (p4 &&& (65535 : Int32))))), .second, .val (.ref b1), .val (.ref b5), .val (.ref b11), .unset, .unset, .unset, .unset, .unset] [(.int (0 : Int32))])) _
    refine XS.istore X21.here hx rfl (hb hby at_88) rfl (l' := #[.val (.int p0), .val (.int p1), .val (.int p2), .val (.int p3), .val (.int p4), .val (.int (1 : Int32)), .val (.double (FP.i2d (p3 &&& (2147483647 : Int32)))), .second, .val (.double (FP.dadd (FP.i2d (p3 &&& (2147483647 : Int32))) (FP.i2d (p4 &&& (65535 : Int32))))), .second, .val (.ref b1), .val (.ref b5), .val (.ref b11), .val (.int (0 : Int32)), .unset, .unset, .unset, .unset]) rfl ?_
    show Steps p.tables e below (T21.setTop (mkF m 90 #[.val (.int p0), .val (.int p1), .val (.int p2), .val (.int p3), .val (.int p4), .val (.int (1 : Int32)), .val (.double (FP.i2d (p3 &&& (2147483647 : Int32)))), .second, .val (.double (FP.dadd (FP.i2d (p3 &&& (2147483647 : Int32))) (FP.i2d (p4 &&& (65535 : Int32))))), .second, .val (.ref b1), .val (.ref b5), .val (.ref b11), .val (.int (0 : Int32)), .unset, .unset, .unset, .unset] [])) _
    refine XS.iload X21.here hx rfl (hb hby at_90) rfl ?_
    show Steps p.tables e below (T21.setTop (mkF m 92 #[.val (.int p0), .val (.int p1), .val (.int p2), .val (.int p3), .val (.int p4), .val (.int (1 : Int32)), .val (.double (FP.i2d (p3 &&& (2147483647 : Int32)))), .second, .val (.double (FP.dadd (FP.i2d (p3 &&& (2147483647 : Int32))) (FP.i2d (p4 &&& (65535 : Int32))))), .second, .val (.ref b1), .val (.ref b5), .val (.ref b11), .val (.int (0 : Int32)), .unset, .unset, .unset, .unset] [(.int (0 : Int32))])) _
    refine XS.iload X21.here hx rfl (hb hby at_92) rfl ?_
    show Steps p.tables e below (T21.setTop (mkF m 94 #[.val (.int p0), .val (.int p1), .val (.int p2), .val (.int p3), .val (.int p4), .val (.int (1 : Int32)), .val (.double (FP.i2d (p3 &&& (2147483647 : Int32)))), .second, .val (.double (FP.dadd (FP.i2d (p3 &&& (2147483647 : Int32))) (FP.i2d (p4 &&& (65535 : Int32))))), .second, .val (.ref b1), .val (.ref b5), .val (.ref b11), .val (.int (0 : Int32)), .unset, .unset, .unset, .unset] [(.int (1 : Int32)), (.int (0 : Int32))])) _
    refine XS.ifYes X21.here hx rfl (pc0 := 94) (pc' := 101) rfl (hb hby at_94) rfl ((if0 _ _).trans (feq (by decide : ¬ ((1 : Int32) = (0 : Int32)))).2) (by decide) (by decide) ?_
    show Steps p.tables e below (T21.setTop (mkF m 101 #[.val (.int p0), .val (.int p1), .val (.int p2), .val (.int p3), .val (.int p4), .val (.int (1 : Int32)), .val (.double (FP.i2d (p3 &&& (2147483647 : Int32)))), .second, .val (.double (FP.dadd (FP.i2d (p3 &&& (2147483647 : Int32))) (FP.i2d (p4 &&& (65535 : Int32))))), .second, .val (.ref b1), .val (.ref b5), .val (.ref b11), .val (.int (0 : Int32)), .unset, .unset, .unset, .unset] [(.int (0 : Int32))])) _
    refine XS.iconst X21.here hx rfl (hb hby at_101) ?_
    show Steps p.tables e below (T21.setTop (mkF m 102 #[.val (.int p0), .val (.int p1), .val (.int p2), .val (.int p3), .val (.int p4), .val (.int (1 : Int32)), .val (.double (FP.i2d (p3 &&& (2147483647 : Int32)))), .second, .val (.double (FP.dadd (FP.i2d (p3 &&& (2147483647 : Int32))) (FP.i2d (p4 &&& (65535 : Int32))))), .second, .val (.ref b1), .val (.ref b5), .val (.ref b11), .val (.int (0 : Int32)), .unset, .unset, .unset, .unset] [(.int (0 : Int32)), (.int (0 : Int32))])) _
    refine XS.icmpYes X21.here hx rfl (pc0 := 102) (pc' := 107) rfl (hb hby at_102) rfl (teq (by decide : (0 : Int32) = (0 : Int32))).1 (by decide) (by decide) ?_
    show Steps p.tables e below (T21.setTop (mkF m 107 #[.val (.int p0), .val (.int p1), .val (.int p2), .val (.int p3), .val (.int p4), .val (.int (1 : Int32)), .val (.double (FP.i2d (p3 &&& (2147483647 : Int32)))), .second, .val (.double (FP.dadd (FP.i2d (p3 &&& (2147483647 : Int32))) (FP.i2d (p4 &&& (65535 : Int32))))), .second, .val (.ref b1), .val (.ref b5), .val (.ref b11), .val (.int (0 : Int32)), .unset, .unset, .unset, .unset] [])) _
    refine XS.iload X21.here hx rfl (hb hby at_107) rfl ?_
    show Steps p.tables e below (T21.setTop (mkF m 109 #[.val (.int p0), .val (.int p1), .val (.int p2), .val (.int p3), .val (.int p4), .val (.int (1 : Int32)), .val (.double (FP.i2d (p3 &&& (2147483647 : Int32)))), .second, .val (.double (FP.dadd (FP.i2d (p3 &&& (2147483647 : Int32))) (FP.i2d (p4 &&& (65535 : Int32))))), .second, .val (.ref b1), .val (.ref b5), .val (.ref b11), .val (.int (0 : Int32)), .unset, .unset, .unset, .unset] [(.int (0 : Int32))])) _
    refine XS.aload X21.here hx rfl (hb hby at_109) rfl rfl ?_
    show Steps p.tables e below (T21.setTop (mkF m 111 #[.val (.int p0), .val (.int p1), .val (.int p2), .val (.int p3), .val (.int p4), .val (.int (1 : Int32)), .val (.double (FP.i2d (p3 &&& (2147483647 : Int32)))), .second, .val (.double (FP.dadd (FP.i2d (p3 &&& (2147483647 : Int32))) (FP.i2d (p4 &&& (65535 : Int32))))), .second, .val (.ref b1), .val (.ref b5), .val (.ref b11), .val (.int (0 : Int32)), .unset, .unset, .unset, .unset] [(.ref b11), (.int (0 : Int32))])) _
    refine st22.trans ?_
    show Steps p.tables e below (T22.setTop (mkF m 114 #[.val (.int p0), .val (.int p1), .val (.int p2), .val (.int p3), .val (.int p4), .val (.int (1 : Int32)), .val (.double (FP.i2d (p3 &&& (2147483647 : Int32)))), .second, .val (.double (FP.dadd (FP.i2d (p3 &&& (2147483647 : Int32))) (FP.i2d (p4 &&& (65535 : Int32))))), .second, .val (.ref b1), .val (.ref b5), .val (.ref b11), .val (.int (0 : Int32)), .unset, .unset, .unset, .unset] [(.ref b1), (.int (0 : Int32))])) _
    refine XS.ifnonnullYes X22.here hx rfl (pc0 := 114) (pc' := 121) rfl (hb hby at_114) rfl (by decide) (by decide) ?_
    show Steps p.tables e below (T22.setTop (mkF m 121 #[.val (.int p0), .val (.int p1), .val (.int p2), .val (.int p3), .val (.int p4), .val (.int (1 : Int32)), .val (.double (FP.i2d (p3 &&& (2147483647 : Int32)))), .second, .val (.double (FP.dadd (FP.i2d (p3 &&& (2147483647 : Int32))) (FP.i2d (p4 &&& (65535 : Int32))))), .second, .val (.ref b1), .val (.ref b5), .val (.ref b11), .val (.int (0 : Int32)), .unset, .unset, .unset, .unset] [(.int (0 : Int32))])) _
    refine XS.iconst X22.here hx rfl (hb hby at_121) ?_
    show Steps p.tables e below (T22.setTop (mkF m 122 #[.val (.int p0), .val (.int p1), .val (.int p2), .val (.int p3), .val (.int p4), .val (.int (1 : Int32)), .val (.double (FP.i2d (p3 &&& (2147483647 : Int32)))), .second, .val (.double (FP.dadd (FP.i2d (p3 &&& (2147483647 : Int32))) (FP.i2d (p4 &&& (65535 : Int32))))), .second, .val (.ref b1), .val (.ref b5), .val (.ref b11), .val (.int (0 : Int32)), .unset, .unset, .unset, .unset] [(.int (0 : Int32)), (.int (0 : Int32))])) _
    refine XS.icmpYes X22.here hx rfl (pc0 := 122) (pc' := 127) rfl (hb hby at_122) rfl (teq (by decide : (0 : Int32) = (0 : Int32))).1 (by decide) (by decide) ?_
    show Steps p.tables e below (T22.setTop (mkF m 127 #[.val (.int p0), .val (.int p1), .val (.int p2), .val (.int p3), .val (.int p4), .val (.int (1 : Int32)), .val (.double (FP.i2d (p3 &&& (2147483647 : Int32)))), .second, .val (.double (FP.dadd (FP.i2d (p3 &&& (2147483647 : Int32))) (FP.i2d (p4 &&& (65535 : Int32))))), .second, .val (.ref b1), .val (.ref b5), .val (.ref b11), .val (.int (0 : Int32)), .unset, .unset, .unset, .unset] [])) _
    refine XS.aload X22.here hx rfl (hb hby at_127) rfl rfl ?_
    show Steps p.tables e below (T22.setTop (mkF m 129 #[.val (.int p0), .val (.int p1), .val (.int p2), .val (.int p3), .val (.int p4), .val (.int (1 : Int32)), .val (.double (FP.i2d (p3 &&& (2147483647 : Int32)))), .second, .val (.double (FP.dadd (FP.i2d (p3 &&& (2147483647 : Int32))) (FP.i2d (p4 &&& (65535 : Int32))))), .second, .val (.ref b1), .val (.ref b5), .val (.ref b11), .val (.int (0 : Int32)), .unset, .unset, .unset, .unset] [(.ref b11)])) _
    refine XS.iconst X22.here hx rfl (hb hby at_129) ?_
    show Steps p.tables e below (T22.setTop (mkF m 130 #[.val (.int p0), .val (.int p1), .val (.int p2), .val (.int p3), .val (.int p4), .val (.int (1 : Int32)), .val (.double (FP.i2d (p3 &&& (2147483647 : Int32)))), .second, .val (.double (FP.dadd (FP.i2d (p3 &&& (2147483647 : Int32))) (FP.i2d (p4 &&& (65535 : Int32))))), .second, .val (.ref b1), .val (.ref b5), .val (.ref b11), .val (.int (0 : Int32)), .unset, .unset, .unset, .unset] [(.int (0 : Int32)), (.ref b11)])) _
    refine st23.trans ?_
    show Steps p.tables e below (T23.setTop (mkF m 133 #[.val (.int p0), .val (.int p1), .val (.int p2), .val (.int p3), .val (.int p4), .val (.int (1 : Int32)), .val (.double (FP.i2d (p3 &&& (2147483647 : Int32)))), .second, .val (.double (FP.dadd (FP.i2d (p3 &&& (2147483647 : Int32))) (FP.i2d (p4 &&& (65535 : Int32))))), .second, .val (.ref b1), .val (.ref b5), .val (.ref b11), .val (.int (0 : Int32)), .unset, .unset, .unset, .unset] [(.double (FP.i2d (p1 ||| (1 : Int32))))])) _
    refine XS.dstore X23.here hx rfl (hb hby at_133) rfl (l' := #[.val (.int p0), .val (.int p1), .val (.int p2), .val (.int p3), .val (.int p4), .val (.int (1 : Int32)), .val (.double (FP.i2d (p3 &&& (2147483647 : Int32)))), .second, .val (.double (FP.dadd (FP.i2d (p3 &&& (2147483647 : Int32))) (FP.i2d (p4 &&& (65535 : Int32))))), .second, .val (.ref b1), .val (.ref b5), .val (.ref b11), .val (.int (0 : Int32)), .val (.double (FP.i2d (p1 ||| (1 : Int32)))), .second, .unset, .unset]) rfl ?_
    show Steps p.tables e below (T23.setTop (mkF m 135 #[.val (.int p0), .val (.int p1), .val (.int p2), .val (.int p3), .val (.int p4), .val (.int (1 : Int32)), .val (.double (FP.i2d (p3 &&& (2147483647 : Int32)))), .second, .val (.double (FP.dadd (FP.i2d (p3 &&& (2147483647 : Int32))) (FP.i2d (p4 &&& (65535 : Int32))))), .second, .val (.ref b1), .val (.ref b5), .val (.ref b11), .val (.int (0 : Int32)), .val (.double (FP.i2d (p1 ||| (1 : Int32)))), .second, .unset, .unset] [])) _
    refine XS.aload X23.here hx rfl (hb hby at_135) rfl rfl ?_
    show Steps p.tables e below (T23.setTop (mkF m 137 #[.val (.int p0), .val (.int p1), .val (.int p2), .val (.int p3), .val (.int p4), .val (.int (1 : Int32)), .val (.double (FP.i2d (p3 &&& (2147483647 : Int32)))), .second, .val (.double (FP.dadd (FP.i2d (p3 &&& (2147483647 : Int32))) (FP.i2d (p4 &&& (65535 : Int32))))), .second, .val (.ref b1), .val (.ref b5), .val (.ref b11), .val (.int (0 : Int32)), .val (.double (FP.i2d (p1 ||| (1 : Int32)))), .second, .unset, .unset] [(.ref b11)])) _
    refine XS.iconst X23.here hx rfl (hb hby at_137) ?_
    show Steps p.tables e below (T23.setTop (mkF m 138 #[.val (.int p0), .val (.int p1), .val (.int p2), .val (.int p3), .val (.int p4), .val (.int (1 : Int32)), .val (.double (FP.i2d (p3 &&& (2147483647 : Int32)))), .second, .val (.double (FP.dadd (FP.i2d (p3 &&& (2147483647 : Int32))) (FP.i2d (p4 &&& (65535 : Int32))))), .second, .val (.ref b1), .val (.ref b5), .val (.ref b11), .val (.int (0 : Int32)), .val (.double (FP.i2d (p1 ||| (1 : Int32)))), .second, .unset, .unset] [(.int (0 : Int32)), (.ref b11)])) _
    refine st24.trans ?_
    show Steps p.tables e below (T24.setTop (mkF m 141 #[.val (.int p0), .val (.int p1), .val (.int p2), .val (.int p3), .val (.int p4), .val (.int (1 : Int32)), .val (.double (FP.i2d (p3 &&& (2147483647 : Int32)))), .second, .val (.double (FP.dadd (FP.i2d (p3 &&& (2147483647 : Int32))) (FP.i2d (p4 &&& (65535 : Int32))))), .second, .val (.ref b1), .val (.ref b5), .val (.ref b11), .val (.int (0 : Int32)), .val (.double (FP.i2d (p1 ||| (1 : Int32)))), .second, .unset, .unset] [(.double (FP.i2d (p2 ||| (1 : Int32))))])) _
    refine XS.dstore X24.here hx rfl (hb hby at_141) rfl (l' := #[.val (.int p0), .val (.int p1), .val (.int p2), .val (.int p3), .val (.int p4), .val (.int (1 : Int32)), .val (.double (FP.i2d (p3 &&& (2147483647 : Int32)))), .second, .val (.double (FP.dadd (FP.i2d (p3 &&& (2147483647 : Int32))) (FP.i2d (p4 &&& (65535 : Int32))))), .second, .val (.ref b1), .val (.ref b5), .val (.ref b11), .val (.int (0 : Int32)), .val (.double (FP.i2d (p1 ||| (1 : Int32)))), .second, .val (.double (FP.i2d (p2 ||| (1 : Int32)))), .second]) rfl ?_
    show Steps p.tables e below (T24.setTop (mkF m 143 #[.val (.int p0), .val (.int p1), .val (.int p2), .val (.int p3), .val (.int p4), .val (.int (1 : Int32)), .val (.double (FP.i2d (p3 &&& (2147483647 : Int32)))), .second, .val (.double (FP.dadd (FP.i2d (p3 &&& (2147483647 : Int32))) (FP.i2d (p4 &&& (65535 : Int32))))), .second, .val (.ref b1), .val (.ref b5), .val (.ref b11), .val (.int (0 : Int32)), .val (.double (FP.i2d (p1 ||| (1 : Int32)))), .second, .val (.double (FP.i2d (p2 ||| (1 : Int32)))), .second] [])) _
    refine XS.iload X24.here hx rfl (hb hby at_143) rfl ?_
    show Steps p.tables e below (T24.setTop (mkF m 145 #[.val (.int p0), .val (.int p1), .val (.int p2), .val (.int p3), .val (.int p4), .val (.int (1 : Int32)), .val (.double (FP.i2d (p3 &&& (2147483647 : Int32)))), .second, .val (.double (FP.dadd (FP.i2d (p3 &&& (2147483647 : Int32))) (FP.i2d (p4 &&& (65535 : Int32))))), .second, .val (.ref b1), .val (.ref b5), .val (.ref b11), .val (.int (0 : Int32)), .val (.double (FP.i2d (p1 ||| (1 : Int32)))), .second, .val (.double (FP.i2d (p2 ||| (1 : Int32)))), .second] [(.int (0 : Int32))])) _
    refine XS.ifYes X24.here hx rfl (pc0 := 145) (pc' := 168) rfl (hb hby at_145) rfl ((if0 _ _).trans (teq (by decide : (0 : Int32) = (0 : Int32))).1) (by decide) (by decide) ?_
    show Steps p.tables e below (T24.setTop (mkF m 168 #[.val (.int p0), .val (.int p1), .val (.int p2), .val (.int p3), .val (.int p4), .val (.int (1 : Int32)), .val (.double (FP.i2d (p3 &&& (2147483647 : Int32)))), .second, .val (.double (FP.dadd (FP.i2d (p3 &&& (2147483647 : Int32))) (FP.i2d (p4 &&& (65535 : Int32))))), .second, .val (.ref b1), .val (.ref b5), .val (.ref b11), .val (.int (0 : Int32)), .val (.double (FP.i2d (p1 ||| (1 : Int32)))), .second, .val (.double (FP.i2d (p2 ||| (1 : Int32)))), .second] [])) _
    refine XS.dload X24.here hx rfl (hb hby at_168) rfl ?_
    show Steps p.tables e below (T24.setTop (mkF m 170 #[.val (.int p0), .val (.int p1), .val (.int p2), .val (.int p3), .val (.int p4), .val (.int (1 : Int32)), .val (.double (FP.i2d (p3 &&& (2147483647 : Int32)))), .second, .val (.double (FP.dadd (FP.i2d (p3 &&& (2147483647 : Int32))) (FP.i2d (p4 &&& (65535 : Int32))))), .second, .val (.ref b1), .val (.ref b5), .val (.ref b11), .val (.int (0 : Int32)), .val (.double (FP.i2d (p1 ||| (1 : Int32)))), .second, .val (.double (FP.i2d (p2 ||| (1 : Int32)))), .second] [(.double (FP.i2d (p1 ||| (1 : Int32))))])) _
    refine XS.dconst0 X24.here hx rfl (hb hby at_170) (v := (0 : UInt64)) rfl ?_
    show Steps p.tables e below (T24.setTop (mkF m 171 #[.val (.int p0), .val (.int p1), .val (.int p2), .val (.int p3), .val (.int p4), .val (.int (1 : Int32)), .val (.double (FP.i2d (p3 &&& (2147483647 : Int32)))), .second, .val (.double (FP.dadd (FP.i2d (p3 &&& (2147483647 : Int32))) (FP.i2d (p4 &&& (65535 : Int32))))), .second, .val (.ref b1), .val (.ref b5), .val (.ref b11), .val (.int (0 : Int32)), .val (.double (FP.i2d (p1 ||| (1 : Int32)))), .second, .val (.double (FP.i2d (p2 ||| (1 : Int32)))), .second] [(.double (0 : UInt64)), (.double (FP.i2d (p1 ||| (1 : Int32))))])) _
    refine XS.dcmpS X24.here hx rfl (hb hby at_171) rfl (v := (1 : Int32)) hd171 ?_
    show Steps p.tables e below (T24.setTop (mkF m 172 #[.val (.int p0), .val (.int p1), .val (.int p2), .val (.int p3), .val (.int p4), .val (.int (1 : Int32)), .val (.double (FP.i2d (p3 &&& (2147483647 : Int32)))), .second, .val (.double (FP.dadd (FP.i2d (p3 &&& (2147483647 : Int32))) (FP.i2d (p4 &&& (65535 : Int32))))), .second, .val (.ref b1), .val (.ref b5), .val (.ref b11), .val (.int (0 : Int32)), .val (.double (FP.i2d (p1 ||| (1 : Int32)))), .second, .val (.double (FP.i2d (p2 ||| (1 : Int32)))), .second] [(.int (1 : Int32))])) _
    refine XS.ifYes X24.here hx rfl (pc0 := 172) (pc' := 182) rfl (hb hby at_172) rfl ((if0 _ _).trans (feq (by decide : ¬ ((1 : Int32) = (0 : Int32)))).2) (by decide) (by decide) ?_
    show Steps p.tables e below (T24.setTop (mkF m 182 #[.val (.int p0), .val (.int p1), .val (.int p2), .val (.int p3), .val (.int p4), .val (.int (1 : Int32)), .val (.double (FP.i2d (p3 &&& (2147483647 : Int32)))), .second, .val (.double (FP.dadd (FP.i2d (p3 &&& (2147483647 : Int32))) (FP.i2d (p4 &&& (65535 : Int32))))), .second, .val (.ref b1), .val (.ref b5), .val (.ref b11), .val (.int (0 : Int32)), .val (.double (FP.i2d (p1 ||| (1 : Int32)))), .second, .val (.double (FP.i2d (p2 ||| (1 : Int32)))), .second] [])) _
    refine XS.iconst X24.here hx rfl (hb hby at_182) ?_
    show Steps p.tables e below (T24.setTop (mkF m 183 #[.val (.int p0), .val (.int p1), .val (.int p2), .val (.int p3), .val (.int p4), .val (.int (1 : Int32)), .val (.double (FP.i2d (p3 &&& (2147483647 : Int32)))), .second, .val (.double (FP.dadd (FP.i2d (p3 &&& (2147483647 : Int32))) (FP.i2d (p4 &&& (65535 : Int32))))), .second, .val (.ref b1), .val (.ref b5), .val (.ref b11), .val (.int (0 : Int32)), .val (.double (FP.i2d (p1 ||| (1 : Int32)))), .second, .val (.double (FP.i2d (p2 ||| (1 : Int32)))), .second] [(.int (1 : Int32))])) _
    refine XS.goto X24.here hx rfl (pc0 := 183) (pc' := 187) rfl (hb hby at_183) (by decide) (by decide) ?_
    show Steps p.tables e below (T24.setTop (mkF m 187 #[.val (.int p0), .val (.int p1), .val (.int p2), .val (.int p3), .val (.int p4), .val (.int (1 : Int32)), .val (.double (FP.i2d (p3 &&& (2147483647 : Int32)))), .second, .val (.double (FP.dadd (FP.i2d (p3 &&& (2147483647 : Int32))) (FP.i2d (p4 &&& (65535 : Int32))))), .second, .val (.ref b1), .val (.ref b5), .val (.ref b11), .val (.int (0 : Int32)), .val (.double (FP.i2d (p1 ||| (1 : Int32)))), .second, .val (.double (FP.i2d (p2 ||| (1 : Int32)))), .second] [(.int (1 : Int32))])) _
    exact retN X24 hx (t := .boolean) Bd.returns (by simp) (hb hby at_187) hr
  · show Q0 n0 _ T24.heap _
    rw [e24]
    exact ⟨rfl, N24⟩
theorem own_addw (p q : Int32) : Jvm.Free.Fl.NoNaN64 (FP.dadd (FP.i2d (p &&& (2147483647 : Int32))) (FP.i2d (q &&& (65535 : Int32)))) :=
  (Jvm.OwnFP.Ra.add (k := 0) (Jvm.OwnFP.Ra.i2d (p &&& (2147483647 : Int32))) (Jvm.OwnFP.Ra.i2d (q &&& (65535 : Int32))) (by have := rng32 (p &&& (2147483647 : Int32)); have := rng32 (q &&& (65535 : Int32)); omega) rfl (by decide)).nn
theorem own_odd (p : Int32) : (p ||| (1 : Int32)).toInt ≠ 0 := fun h => by
  have e : (p ||| (1 : Int32)) = 0 := Int32.toInt_inj.mp (by rw [h]; decide)
  have e2 : (p ||| (1 : Int32)) &&& 1 = 0 := by rw [e]; decide
  have e3 : (p ||| (1 : Int32)) &&& 1 = 1 := by
    apply Int32.toBitVec_inj.mp
    show (p.toBitVec ||| 1#32) &&& 1#32 = 1#32
    apply BitVec.eq_of_getLsbD_eq; intro i hi
    simp only [BitVec.getLsbD_and, BitVec.getLsbD_or]
    cases (1#32 : BitVec 32).getLsbD i <;> simp
  rw [e3] at e2; exact absurd e2 (by decide)
theorem own_law (l : Launch) (Z : State) (a0 : Array Value) (hw : ∀ d ∈ tables_1, d.before a0 Z = true) (ws : List Jvm.Cond) (p0 : Int32) (p1 : Int32) (p2 : Int32) (p3 : Int32) (p4 : Int32) (h0 : Heap) (n0 : Nat) (Z0 : n0 ≤ h0.size) :
    MetFree l x (head1 (Jvm.Cond.code x code maxLocals ret :: ws) room_1) (fun a U => a = #[(.int p0), (.int p1), (.int p2), (.int p3), (.int p4)] ∧ Z.Warmed39 U.vm ∧ U.heap = h0) (fun _ _ _ _ _ => True) (fun _ U o U' => ∃ v L, o = .returned v ∧ Q0 n0 v U'.heap L ∧ FrameEnd U o U' L room_1.cells room_1.slots) := by
  have z0 : Jvm.Op.cmpValue (FP.dcmp (0 : UInt64) (0 : UInt64)) .l = (0 : Int32) := Jvm.RoadKit.dcmpV_self (by unfold Jvm.Free.Fl.NoNaN64; decide) _
  by_cases hc : (p0 &&& (1 : Int32)) = (0 : Int32)
  · exact rm0_n l Z a0 hw ws p0 p1 p2 p3 p4 h0 n0 Z0 (hc3 := hc) (nn28 := own_addw p3 p4) (hd151 := z0) (hd158 := z0)
  · have h1 := Jvm.OwnFP.Ra.i2d (p1 ||| (1 : Int32))
    rcases Int.lt_or_gt_of_ne (own_odd p1) with h | h
    · exact rm0_r0 l Z a0 hw ws p0 p1 p2 p3 p4 h0 n0 Z0 (hc3 := hc) (nn28 := own_addw p3 p4) (hd171 := h1.lt Jvm.OwnFP.ra_zero (by decide) h _)
    · exact rm0_r2 l Z a0 hw ws p0 p1 p2 p3 p4 h0 n0 Z0 (hc3 := hc) (nn28 := own_addw p3 p4) (hd171 := h1.gt Jvm.OwnFP.ra_zero (by decide) h _)
set_option maxRecDepth 65536 in
set_option maxHeartbeats 40000000 in
theorem comes_1 {Post : Tables → Env → Array Value → State → Outcome → State → Prop} (hpost : ∀ tb e args s v u, (limb_1_1.after args s (.returned v) u = true ∧ limb_1_2.after args s (.returned v) u = true ∧ True) → FrameEnd s (.returned v) u (Jvm.fieldLocs frame_1_writes args s ++ Jvm.arrayLocs frame_1_arrays args s ++ Jvm.staticLocs frame_1_statics s) 16 128 → Post tb e args s (.returned v) u) :
    ArmFor flags0 classFile x code maxLocals ret World_1 tables_1 room_1 Calls_1 rest_1 Pre_1 Post := by
  intro l hfl _ _ p e ha hc hk s m args below hf hA hF happ hP
  obtain ⟨hcalls, hrest, hpre⟩ := hP
  obtain ⟨-, -, -, hnamed, -, -, -, hat⟩ := (Spec.applies_iff hf).mp happ
  obtain ⟨hg, hn⟩ := and_e (Cond.before_iff.mp (show (Jvm.Cond.and given_1 narrow_1).before args s = true from hpre))
  obtain ⟨g1, g2⟩ := and_e hg
  obtain ⟨g3, g4⟩ := and_e g2
  obtain ⟨g5, g6⟩ := and_e g4
  obtain ⟨g7, g8⟩ := and_e g6
  obtain ⟨g9, g10⟩ := and_e g8
  obtain ⟨w0, w1, w2, w3, w4, rfl⟩ : ∃ w0 w1 w2 w3 w4 : Value, args = #[w0, w1, w2, w3, w4] := by
    have hs : args.size = 5 := by simpa [Cond.value, given_1] using g1
    obtain ⟨L⟩ := args
    match L, hs with
    | [w0, w1, w2, w3, w4], _ => exact ⟨w0, w1, w2, w3, w4, rfl⟩
  have hw := fun d (hd : d ∈ tables_1) => atoms_spec (ws := Jvm.Cond.code x code maxLocals ret :: tables_1) hat d (List.mem_cons_of_mem _ hd)
  have hfit : Fit s := fun {y c} hc i hi => by
    obtain ⟨ha, rfl⟩ := Array.getElem?_eq_some_iff.mp hc
    have q := List.all_eq_true.mp ((Array.all_eq_true_iff_forall_mem.mp hF) _ (Array.getElem_mem ha)) i (List.mem_range.mpr hi)
    simpa [Array.getElem?_eq_getElem hi] using q
  obtain ⟨i0, ei0⟩ := is_v g3
  obtain rfl : w0 = (.int i0) := Option.some.inj ei0
  obtain ⟨i1, ei1⟩ := is_v g5
  obtain rfl : w1 = (.int i1) := Option.some.inj ei1
  obtain ⟨i2, ei2⟩ := is_v g7
  obtain rfl : w2 = (.int i2) := Option.some.inj ei2
  obtain ⟨i3, ei3⟩ := is_v g9
  obtain rfl : w3 = (.int i3) := Option.some.inj ei3
  obtain ⟨i4, ei4⟩ := is_v g10
  obtain rfl : w4 = (.int i4) := Option.some.inj ei4
  obtain ⟨n, o, h1, h2, h3, _, L, rfl, ⟨rfl, N⟩, hq⟩ := own_law l s _ hw tables_1 i0 i1 i2 i3 i4 s.heap s.heap.size (Nat.le_refl _)  p e ha hc hk s m _ below hf ((Spec.applies_iff_loose hf).mp happ).1 ⟨rfl, State.Warmed39.refl s, rfl⟩ trivial
  refine ⟨n, _, h1, h2, h3, hpost _ _ _ _ _ _ ⟨Cond.after_iff.mpr rfl, Cond.after_iff.mpr (eq_i res_at (Term.int_eval (1)) rfl), trivial⟩ ⟨hq.1, hq.2.1, (hq.2.2.sift fun y hy => Or.inr (N y hy)).mono (by decide) (by decide)⟩⟩
theorem main_1_1 : Claimed_1_1 := comes_1 fun _ _ _ _ _ _ h hF => ⟨h.1, hF⟩
theorem main_1_2 : Claimed_1_2 := comes_1 fun _ _ _ _ _ _ h hF => ⟨h.2.1, hF⟩
end Jvm.Pilot.@@N@@
namespace Jvm.Pilot.@@N@@
open Jvm Jvm.ClassFile Sem Op Lib Jvm.Free Jvm.Stand Jvm.Pilot.@@N@@.Jvm.D
/-! MADE BY PROGRAM (witnessworld.py) out of the Statement's table words and the real class files: 11 classes; the members and pool entries that the words name. The judged class is class 1, her method 1. -/
namespace start1
open Jvm.ClassFile
def u (s : String) : CpInfo := .utf8 (stringToUtf16 s)
/-- a pool by its gaps: so many unusable entries, then the entry; so many at the end -/
def gap : Nat → List CpInfo → List CpInfo
  | 0, r => r
  | n + 1, r => .unusable :: gap n r
def poolList (es : List (Nat × CpInfo)) (last : Nat) : List CpInfo := es.foldr (fun e r => gap e.1 (e.2 :: r)) (gap last [])
def pool (es : List (Nat × CpInfo)) (last : Nat) : Array CpInfo := ⟨poolList es last⟩
def fileOf (pool : Array CpInfo) (this : Nat) (attrs : Array Attribute := #[]) (ms : Array MethodInfo := #[]) (fl : Nat := 33) (sup : Nat := 0) (ifs : Array Nat := #[]) (fds : Array FieldInfo := #[]) : ClassFile where
  minorVersion := 0
  majorVersion := 65
  constantPool := pool
  accessFlags := fl
  thisClass := this
  superClass := sup
  interfaces := ifs
  fields := fds
  methods := ms
  attributes := attrs
def plain (name : String) (sup : Option ClassId) : Class where
  name := name
  kind := .ordinary
  loader := none
  accessFlags := 33
  super := sup
  interfaces := #[]
  cf := none
  fields := #[]
  methods := #[]
  instanceTypes := #[]
  staticTypes := #[]
  resolved := #[]
  callSites := []
  init := .initialized
  statics := none
  mirror := none

def pool0 : Array CpInfo := pool [(5, u "<init>"), (0, u "()V"), (1, .class_ 10), (1, u "java/lang/Object")] 113

def k0c0 : Code := { maxStack := 0, maxLocals := 1, code := object_method_1_code, exceptionTable := #[], attributes := #[] }
def k0m0 : Method := { name := "<init>", desc := "()V", sig := { parameters := [], returnType := none }, accessFlags := 1, code := some k0c0 }
/-- java/lang/Object -/
def k0 : Class := { plain "java/lang/Object" none with
  accessFlags := 33
  interfaces := #[]
  cf := some (fileOf pool0 8 #[] #[{ accessFlags := 1, nameIndex := 5, descriptorIndex := 6, attributes := #[] }] 33 0 #[] #[])
  fields := #[]
  methods := #[k0m0]
  instanceTypes := #[]
  staticTypes := #[]
  resolved := Array.replicate 124 none
  statics := none }

def pool1 : Array CpInfo := pool [(2, .class_ 4), (1, u "java/lang/Object"), (0, u "<init>"), (0, u "()V"), (0, .integer 2147483647), (0, .integer 65535), (0, .class_ 10), (0, u "com/example/odds_on_counters/oddsoncounters/numeric/Jet"), (0, .methodref 9 12), (0, .nameAndType 5 13), (0, u "(DD[D[D)V"), (0, .methodref 9 15), (0, .nameAndType 16 17), (0, u "isConstant"), (0, u "()Z"), (0, .methodref 9 19), (0, .nameAndType 20 21), (0, u "slopeLows"), (0, u "()[D"), (0, .methodref 9 23), (0, .nameAndType 24 25), (0, u "slopeLow"), (0, u "(I)D"), (0, .methodref 9 27), (0, .nameAndType 28 25), (0, u "slopeHigh"), (0, .class_ 30), (0, u "com/example/odds_on_counters/oddsoncounters/numeric/JetIsConstantPinLaw"), (2, u "law"), (0, u "(IIIII)Z")] 5

def k1m0 : Method := { name := "<init>", desc := "()V", sig := { parameters := [], returnType := none }, accessFlags := 1, code := none }
def k1c1 : Code := { maxStack := 8, maxLocals := 18, code := code, exceptionTable := #[], attributes := #[] }
def k1m1 : Method := { name := "law", desc := "(IIIII)Z", sig := { parameters := [.int, .int, .int, .int, .int], returnType := some .boolean }, accessFlags := 9, code := some k1c1 }
/-- com/example/odds_on_counters/oddsoncounters/numeric/JetIsConstantPinLaw -/
def k1 : Class := { plain "com/example/odds_on_counters/oddsoncounters/numeric/JetIsConstantPinLaw" (some 0) with
  accessFlags := 49
  interfaces := #[]
  cf := some (fileOf pool1 29 #[] #[{ accessFlags := 1, nameIndex := 5, descriptorIndex := 6, attributes := #[] }, { accessFlags := 9, nameIndex := 33, descriptorIndex := 34, attributes := #[] }] 49 2 #[] #[])
  fields := #[]
  methods := #[k1m0, k1m1]
  instanceTypes := #[]
  staticTypes := #[]
  resolved := Array.replicate 40 none
  statics := none }

def pool2 : Array CpInfo := pool [(1, .methodref 2 3), (0, .class_ 4), (0, .nameAndType 5 6), (0, u "java/lang/Object"), (0, u "<init>"), (0, u "()V"), (0, .fieldref 8 9), (0, .class_ 10), (0, .nameAndType 11 12), (0, u "com/example/odds_on_counters/oddsoncounters/numeric/Jet"), (0, u "low"), (0, u "D"), (0, .fieldref 8 14), (0, .nameAndType 15 12), (0, u "high"), (0, .fieldref 8 17), (0, .nameAndType 18 19), (0, u "slopeLow"), (0, u "[D"), (0, .fieldref 8 21), (0, .nameAndType 22 19), (0, u "slopeHigh"), (0, u "(DD[D[D)V"), (3, u "(I)D"), (1, u "slopeLows"), (0, u "()[D"), (1, u "isConstant"), (0, u "()Z")] 2

def k2c0 : Code := { maxStack := 3, maxLocals := 7, code := prog_60_method_1_code, exceptionTable := #[], attributes := #[] }
def k2m0 : Method := { name := "<init>", desc := "(DD[D[D)V", sig := { parameters := [.double, .double, (.array .double), (.array .double)], returnType := none }, accessFlags := 0, code := some k2c0 }
def k2c1 : Code := { maxStack := 2, maxLocals := 2, code := prog_60_method_4_code, exceptionTable := #[], attributes := #[] }
def k2m1 : Method := { name := "slopeLow", desc := "(I)D", sig := { parameters := [.int], returnType := some .double }, accessFlags := 1, code := some k2c1 }
def k2c2 : Code := { maxStack := 2, maxLocals := 2, code := prog_60_method_5_code, exceptionTable := #[], attributes := #[] }
def k2m2 : Method := { name := "slopeHigh", desc := "(I)D", sig := { parameters := [.int], returnType := some .double }, accessFlags := 1, code := some k2c2 }
def k2c3 : Code := { maxStack := 1, maxLocals := 1, code := prog_60_method_6_code, exceptionTable := #[], attributes := #[] }
def k2m3 : Method := { name := "slopeLows", desc := "()[D", sig := { parameters := [], returnType := some (.array .double) }, accessFlags := 0, code := some k2c3 }
def k2c4 : Code := { maxStack := 1, maxLocals := 1, code := prog_60_method_8_code, exceptionTable := #[], attributes := #[] }
def k2m4 : Method := { name := "isConstant", desc := "()Z", sig := { parameters := [], returnType := some .boolean }, accessFlags := 0, code := some k2c4 }
/-- com/example/odds_on_counters/oddsoncounters/numeric/Jet -/
def k2 : Class := { plain "com/example/odds_on_counters/oddsoncounters/numeric/Jet" (some 0) with
  accessFlags := 33
  interfaces := #[]
  cf := some (fileOf pool2 8 #[] #[{ accessFlags := 0, nameIndex := 5, descriptorIndex := 23, attributes := #[] }, { accessFlags := 1, nameIndex := 18, descriptorIndex := 27, attributes := #[] }, { accessFlags := 1, nameIndex := 22, descriptorIndex := 27, attributes := #[] }, { accessFlags := 0, nameIndex := 29, descriptorIndex := 30, attributes := #[] }, { accessFlags := 0, nameIndex := 32, descriptorIndex := 33, attributes := #[] }] 33 2 #[] #[{ accessFlags := 18, nameIndex := 11, descriptorIndex := 12, attributes := #[] }, { accessFlags := 18, nameIndex := 15, descriptorIndex := 12, attributes := #[] }, { accessFlags := 18, nameIndex := 18, descriptorIndex := 19, attributes := #[] }, { accessFlags := 18, nameIndex := 22, descriptorIndex := 19, attributes := #[] }])
  fields := #[{ name := "low", type := .double, accessFlags := 18, slot := 0, constantValue := 0 }, { name := "high", type := .double, accessFlags := 18, slot := 1, constantValue := 0 }, { name := "slopeLow", type := (.array .double), accessFlags := 18, slot := 2, constantValue := 0 }, { name := "slopeHigh", type := (.array .double), accessFlags := 18, slot := 3, constantValue := 0 }]
  methods := #[k2m0, k2m1, k2m2, k2m3, k2m4]
  instanceTypes := #[.double, .double, (.array .double), (.array .double)]
  staticTypes := #[]
  resolved := Array.replicate 36 none
  statics := none }

def pool3 : Array CpInfo := pool [(1, u "java/lang/Cloneable"), (0, .class_ 1), (0, u "java/lang/Object"), (0, .class_ 3)] 3

/-- java/lang/Cloneable -/
def k3 : Class := { plain "java/lang/Cloneable" (some 0) with
  accessFlags := 1537
  interfaces := #[]
  cf := some (fileOf pool3 2 #[] #[] 1537 4 #[] #[])
  fields := #[]
  methods := #[]
  instanceTypes := #[]
  staticTypes := #[]
  resolved := Array.replicate 8 none
  statics := none }

def pool4 : Array CpInfo := pool [(1, u "java/io/Serializable"), (0, .class_ 1), (0, u "java/lang/Object"), (0, .class_ 3)] 3

/-- java/io/Serializable -/
def k4 : Class := { plain "java/io/Serializable" (some 0) with
  accessFlags := 1537
  interfaces := #[]
  cf := some (fileOf pool4 2 #[] #[] 1537 4 #[] #[])
  fields := #[]
  methods := #[]
  instanceTypes := #[]
  staticTypes := #[]
  resolved := Array.replicate 8 none
  statics := none }

/-- the primitive byte -/
def k5 : Class := { plain "byte" none with kind := .primitive 'B', accessFlags := 0x411 }
/-- [B -/
def k6 : Class := { plain "[B" (some 0) with kind := .array 5 .byte, interfaces := #[3, 4], accessFlags := 1041 }

/-- the primitive double -/
def k7 : Class := { plain "double" none with kind := .primitive 'D', accessFlags := 0x411 }
/-- [D -/
def k8 : Class := { plain "[D" (some 0) with kind := .array 7 .double, interfaces := #[3, 4], accessFlags := 1041 }

/-- the primitive int -/
def k9 : Class := { plain "int" none with kind := .primitive 'I', accessFlags := 0x411 }
/-- [I -/
def k10 : Class := { plain "[I" (some 0) with kind := .array 9 .int, interfaces := #[3, 4], accessFlags := 1041 }

def heap : Heap := #[]
def classes : Array Class := #[k0, k1, k2, k3, k4, k5, k6, k7, k8, k9, k10]
def interned : List (Array UInt16 × Addr) := []
def slotsUsed : Nat := 0
def theMethod : MethodId := ⟨1, 1⟩
def args0 : Array Value := #[.int 5, .int 7, .int 3, .int 3, .int 3]
def aboutOver (below : List Frame) : State where
  vm := { classes := classes, interned := interned.toArray }
  heap := heap
  slotsUsed := slotsUsed
  threads := #[{ frames := .invoking theMethod args0 :: below }]
def below0 : List Frame := [.native { method := ⟨0, 0⟩, args := #[] }]
def about1 : State := aboutOver below0
def p0 : Program := .bare "" "" ""
def e0 : Env := launch0.env 0 0 0
theorem w_frames : about1.frames = Frame.invoking theMethod args0 :: below0 := rfl
set_option maxRecDepth 65536 in
theorem w_args : argsFit about1.vm theMethod args0 = true := by decide +kernel
set_option maxRecDepth 65536 in
theorem w_heap : heapFits about1 = true := by decide +kernel
set_option maxRecDepth 65536 in
theorem w_runnable : about1.curStatus? = some .runnable := by decide +kernel
set_option maxRecDepth 65536 in
theorem w_alone : about1.alone = true := by decide +kernel
set_option maxRecDepth 65536 in
theorem w_named : about1.methodNamed? x = some theMethod := by decide +kernel
set_option maxRecDepth 65536 in
theorem w_hears : about1.hears theMethod below0 = true := by decide +kernel
set_option maxRecDepth 65536 in
theorem w_ripe : about1.ripe theMethod args0 below0 = true := by decide +kernel
theorem w_running : about1.status = .running := rfl
set_option maxRecDepth 65536 in
theorem w_room : about1.hasRoom e0.platform room_1 = true :=
  launch0.hasRoom_least _ room_1 (by decide +kernel) (by decide +kernel) (by decide +kernel) (by decide +kernel) (by decide +kernel) (by decide +kernel)
theorem allAtoms_all (ts : List Jvm.Cond) (a : Array Jvm.Value) (st : Jvm.State) : (allAtoms ts).before a st = ts.all (fun c => c.before a st) := by
  induction ts with
  | nil => rfl
  | cons c t ih =>
    show (Jvm.Cond.and c (allAtoms t)).before a st = _
    rw [Jvm.Cond.before_and, ih, List.all_cons]
def words1 : List Jvm.Cond := Jvm.Cond.code x code maxLocals ret :: tables_1
/-- a 'code' word, met by the world's own term for the bytes: nothing is compared byte by byte -/
theorem code_word {y : MethodName} {bytes : ByteArray} {mx : Nat} {rt : Option FieldType} {a : Array Value} {s : State} {m : MethodId} {meth : Method} {c : Code} (h1 : s.methodNamed? y = some m) (h2 : s.vm.method? m = some meth) (h3 : meth.code = some c) (h4 : c.code = bytes)
    (h5 : (c.maxLocals == mx && c.exceptionTable.isEmpty && decide (c.maxStack ≤ mostOperands) && decide (meth.sig.returnType = rt) && !meth.locks && decide (parseMethodDescriptor y.desc = some meth.sig)) = true) : (Jvm.Cond.code y bytes mx rt).before a s = true := by
  simp only [Bool.and_eq_true, beq_iff_eq, Bool.not_eq_true', decide_eq_true_eq] at h5
  obtain ⟨⟨⟨⟨⟨g1, g2⟩, g3⟩, g4⟩, g5⟩, g6⟩ := h5
  simp [Cond.before, Cond.holds, Cond.value, h1, h2, h3, h4, g1, g2, g3, g4, g5, g6]
def isCode : Jvm.Cond → Bool
  | .code _ _ _ _ => true
  | _ => false
theorem all_split {L : List Jvm.Cond} {P : Jvm.Cond → Bool} (h1 : L.all (fun c => isCode c || P c) = true) (h2 : ∀ c ∈ L.filter isCode, P c = true) : L.all P = true := by
  refine List.all_eq_true.mpr fun c hc => ?_
  have h := List.all_eq_true.mp h1 c hc
  rcases Bool.eq_false_or_eq_true (isCode c) with hi | hi
  · exact h2 c (List.mem_filter.mpr ⟨hc, hi⟩)
  · simpa [hi] using h
set_option maxRecDepth 65536 in
theorem w_c0 : (Jvm.Cond.code x code maxLocals ret).before args0 about1 = true := code_word (m := ⟨1, 1⟩) (meth := k1m1) (c := k1c1) (by decide +kernel) rfl rfl rfl (by decide +kernel)
set_option maxRecDepth 65536 in
theorem w_c1 : (Jvm.Cond.code ({ cls := "com/example/odds_on_counters/oddsoncounters/numeric/Jet", name := "<init>", desc := "(DD[D[D)V" } : Jvm.MethodName) prog_60_method_1_code (7 : Nat) (Option.none : Option Jvm.ClassFile.FieldType)).before args0 about1 = true := code_word (m := ⟨2, 0⟩) (meth := k2m0) (c := k2c0) (by decide +kernel) rfl rfl rfl (by decide +kernel)
set_option maxRecDepth 65536 in
theorem w_c2 : (Jvm.Cond.code ({ cls := "java/lang/Object", name := "<init>", desc := "()V" } : Jvm.MethodName) object_method_1_code (1 : Nat) (Option.none : Option Jvm.ClassFile.FieldType)).before args0 about1 = true := code_word (m := ⟨0, 0⟩) (meth := k0m0) (c := k0c0) (by decide +kernel) rfl rfl rfl (by decide +kernel)
set_option maxRecDepth 65536 in
theorem w_c3 : (Jvm.Cond.code ({ cls := "com/example/odds_on_counters/oddsoncounters/numeric/Jet", name := "isConstant", desc := "()Z" } : Jvm.MethodName) prog_60_method_8_code (1 : Nat) (Option.some Jvm.ClassFile.FieldType.boolean)).before args0 about1 = true := code_word (m := ⟨2, 4⟩) (meth := k2m4) (c := k2c4) (by decide +kernel) rfl rfl rfl (by decide +kernel)
set_option maxRecDepth 65536 in
theorem w_c4 : (Jvm.Cond.code ({ cls := "com/example/odds_on_counters/oddsoncounters/numeric/Jet", name := "slopeLows", desc := "()[D" } : Jvm.MethodName) prog_60_method_6_code (1 : Nat) (Option.some (Jvm.ClassFile.FieldType.array Jvm.ClassFile.FieldType.double))).before args0 about1 = true := code_word (m := ⟨2, 3⟩) (meth := k2m3) (c := k2c3) (by decide +kernel) rfl rfl rfl (by decide +kernel)
set_option maxRecDepth 65536 in
theorem w_c5 : (Jvm.Cond.code ({ cls := "com/example/odds_on_counters/oddsoncounters/numeric/Jet", name := "slopeLow", desc := "(I)D" } : Jvm.MethodName) prog_60_method_4_code (2 : Nat) (Option.some Jvm.ClassFile.FieldType.double)).before args0 about1 = true := code_word (m := ⟨2, 1⟩) (meth := k2m1) (c := k2c1) (by decide +kernel) rfl rfl rfl (by decide +kernel)
set_option maxRecDepth 65536 in
theorem w_c6 : (Jvm.Cond.code ({ cls := "com/example/odds_on_counters/oddsoncounters/numeric/Jet", name := "slopeHigh", desc := "(I)D" } : Jvm.MethodName) prog_60_method_5_code (2 : Nat) (Option.some Jvm.ClassFile.FieldType.double)).before args0 about1 = true := code_word (m := ⟨2, 2⟩) (meth := k2m2) (c := k2c2) (by decide +kernel) rfl rfl rfl (by decide +kernel)
def codes1 : List Jvm.Cond := [Jvm.Cond.code x code maxLocals ret, Jvm.Cond.code ({ cls := "com/example/odds_on_counters/oddsoncounters/numeric/Jet", name := "<init>", desc := "(DD[D[D)V" } : Jvm.MethodName) prog_60_method_1_code (7 : Nat) (Option.none : Option Jvm.ClassFile.FieldType), Jvm.Cond.code ({ cls := "java/lang/Object", name := "<init>", desc := "()V" } : Jvm.MethodName) object_method_1_code (1 : Nat) (Option.none : Option Jvm.ClassFile.FieldType), Jvm.Cond.code ({ cls := "com/example/odds_on_counters/oddsoncounters/numeric/Jet", name := "isConstant", desc := "()Z" } : Jvm.MethodName) prog_60_method_8_code (1 : Nat) (Option.some Jvm.ClassFile.FieldType.boolean), Jvm.Cond.code ({ cls := "com/example/odds_on_counters/oddsoncounters/numeric/Jet", name := "slopeLows", desc := "()[D" } : Jvm.MethodName) prog_60_method_6_code (1 : Nat) (Option.some (Jvm.ClassFile.FieldType.array Jvm.ClassFile.FieldType.double)), Jvm.Cond.code ({ cls := "com/example/odds_on_counters/oddsoncounters/numeric/Jet", name := "slopeLow", desc := "(I)D" } : Jvm.MethodName) prog_60_method_4_code (2 : Nat) (Option.some Jvm.ClassFile.FieldType.double), Jvm.Cond.code ({ cls := "com/example/odds_on_counters/oddsoncounters/numeric/Jet", name := "slopeHigh", desc := "(I)D" } : Jvm.MethodName) prog_60_method_5_code (2 : Nat) (Option.some Jvm.ClassFile.FieldType.double)]
set_option maxRecDepth 65536 in
theorem codes_eq : words1.filter isCode = codes1 := rfl
theorem w_codes : ∀ c ∈ words1.filter isCode, c.before args0 about1 = true := by
  rw [codes_eq]
  intro c hc
  simp only [codes1, List.mem_cons, List.not_mem_nil, or_false] at hc
  rcases hc with rfl | rfl | rfl | rfl | rfl | rfl | rfl
  · exact w_c0
  · exact w_c1
  · exact w_c2
  · exact w_c3
  · exact w_c4
  · exact w_c5
  · exact w_c6
set_option maxRecDepth 65536 in
theorem w_t1 : (words1.take 24).all (fun c => isCode c || c.before args0 about1) = true := by decide +kernel
set_option maxRecDepth 65536 in
theorem w_t2 : (words1.drop 24).all (fun c => isCode c || c.before args0 about1) = true := by decide +kernel
theorem w_tables : (allAtoms (Jvm.Cond.code x code maxLocals ret :: tables_1)).before args0 about1 = true := by
  rw [allAtoms_all]
  show words1.all (fun c => c.before args0 about1) = true
  refine all_split ?_ w_codes
  rw [← List.take_append_drop 24 words1, List.all_append, w_t1, w_t2]
  rfl
set_option maxRecDepth 65536 in
theorem w_case : (Jvm.Cond.and given_1 narrow_1).before args0 about1 = true := by decide +kernel
theorem w_applies : (headSpec (Jvm.Cond.code x code maxLocals ret :: tables_1) room_1).applies x e0.platform about1 = true :=
  (Spec.applies_iff w_frames).mpr ⟨w_running, w_runnable, w_alone, w_named, w_hears, w_ripe, w_room, w_tables⟩
theorem atStart : AtStart classFile x code maxLocals ret World_1 tables_1 room_1 Calls_1 rest_1 Pre_1 launch0 p0 e0 about1 theMethod args0 below0 :=
  ⟨lists_1, trivial, launch0.admits_env _ _ _, launch0.least_env, fairChoices_fair.cas, fairChoices_fair.clock, w_frames, w_args, w_heap, w_applies, trivial, trivial, w_case⟩
end start1
theorem witness_1 : WitnessClaimed_1 := ⟨start1.p0, start1.e0, start1.about1, start1.theMethod, start1.args0, start1.below0, start1.atStart⟩
end Jvm.Pilot.@@N@@
