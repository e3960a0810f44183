import JvmDerived
import JvmDerived.Pilot.@@N@@Statement
import JvmDerived.Pilot.@@N@@Code
set_option linter.unusedVariables false
set_option linter.unusedSimpArgs false
namespace Jvm.RoadKit
open Sem ClassFile Op Lib Jvm.Stand Jvm.Free Jvm.LawKit
section Own
variable {p : Program} {l : Launch} {e : Env} {R : Room} {s : State} {m : MethodId} {args : Array Value} {below : List Frame} {meth : Method} {c : Code} {T : State} {locs : List Loc} {cells slots : Nat}
theorem own_ni0 {a : Addr} : a ∉ ([] : List Addr) := List.not_mem_nil
theorem own_niS {a b : Addr} {ws : List Addr} (h : a ≠ b) (r : a ∉ ws) : a ∉ b :: ws := fun q => (List.mem_cons.mp q).elim h r
theorem own_all0 {P : Addr → Prop} : ∀ x ∈ ([] : List Addr), P x := fun _ q => nomatch q
theorem own_allS {P : Addr → Prop} {b : Addr} {ws : List Addr} (h : P b) (r : ∀ x ∈ ws, P x) : ∀ x ∈ b :: ws, P x := fun x q => (List.mem_cons.mp q).elim (fun e => e ▸ h) (r x)
theorem own_arvL {Z : State} {h : Heap} {a : Addr} {k : ClassId} {ty : FieldType} {n : Int32} {vs vs1 : List Value} {d : Value} (q : vs = vs1) (F : Arv Z h a k ty n vs d) : Arv Z h a k ty n vs1 d := q ▸ F
theorem own_lremM {g : JFrame} {target : State} (X : Stand p l e R s m args below meth c T locs cells slots) (hx : p.tables.exec = Jvm.exec) (hg : g.method = m) {x y : Int64} {rest : List Value} (hd : decode c.code g.pc = .ok (.lrem, 1)) (hs : g.stack = .long y :: .long x :: rest) (hy : y ≠ 0)
    (hr : Steps p.tables e below (T.setTop { g with pc := g.pc + 1, stack := .long (x % y) :: rest }) target) : Steps p.tables e below (T.setTop g) target :=
  XS.lrem X.here hx hg hd hs hy (by rw [lrem_mod]; exact hr)
theorem own_narZ {x : Int32} (h : x = (0 : Int32) ∨ x = (1 : Int32)) : nar .boolean x = x := by rcases h with rfl | rfl <;> decide
theorem own_fitZ {x : Int32} (h : x = (0 : Int32) ∨ x = (1 : Int32)) : fits .boolean (.int x) = true := by rcases h with rfl | rfl <;> decide
theorem own_fldV {Z : State} {h : Heap} {a : Addr} {C n d : String} {v v1 : Value} (q : v = v1) (F : Fld Z h a C n d v) : Fld Z h a C n d v1 := q ▸ F
theorem own_W0 {Z : State} {own : String} {h : Heap} (X : Stand p l e R s m args below meth c T locs cells slots) (eT : T.heap = h) (hZ : Z.Warmed39 s.vm) (hown : s.vm.findClass own = some m.cls) :
    ∃ vm0 k0, Stand p l e R (s.setVm vm0) m args below meth c T locs cells slots ∧ s.Since vm0 k0 ∧ k0 ≤ h.size ∧ Z.Warmed39 (s.setVm vm0).vm ∧ (s.setVm vm0).vm.findClass own = some m.cls :=
  ⟨T.vm, _, X.retabled X.warmed.wide, X.warmed.since h.size, Nat.le_refl _, State.Warmed39.trans (t := s) hZ X.warmed.wide, by rw [show (s.setVm T.vm).vm = T.vm from rfl, X.warmed.alike.findClass]; exact hown⟩
theorem own_fold {Z : State} {own : String} {vm0 vm1 : Vm} {k0 k1 : Nat} (X : Stand p l e R ((s.setVm vm0).setVm vm1) m args below meth c T locs cells slots) (hS : s.Since vm0 k0) (h2 : (s.setVm vm0).Since vm1 k1) (hn : k0 ≤ k1) (hZ : Z.Warmed39 (s.setVm vm0).vm) (hown : (s.setVm vm0).vm.findClass own = some m.cls) :
    Stand p l e R (s.setVm vm1) m args below meth c T locs cells slots ∧ s.Since vm1 k1 ∧ Z.Warmed39 (s.setVm vm1).vm ∧ (s.setVm vm1).vm.findClass own = some m.cls :=
  ⟨X, hS.trans h2 hn, State.Warmed39.trans (t := s.setVm vm0) hZ h2.1, by rw [show (s.setVm vm1).vm = vm1 from rfl, h2.1.alike.findClass]; exact hown⟩
end Own
end Jvm.RoadKit
namespace Jvm.OwnFP
open Jvm.FP Jvm.FP.Core Jvm.Free.Fl
/-- a double's worth, in units of the least positive double -/
def zv (x : UInt64) : Int := zval b64 (val64 x)
/-- x is finite and is the number i / D -/
def Ra (i : Int) (D : Nat) (x : UInt64) : Prop := DFin x ∧ zv x * (D : Int) = i * (one64 : Int)
theorem Ra.fin {i : Int} {D : Nat} {x : UInt64} (h : Ra i D x) : Fin64 x := fin64_core.mpr h.1
theorem Ra.nn {i : Int} {D : Nat} {x : UInt64} (h : Ra i D x) : NoNaN64 x := h.fin.noNaN
theorem Ra.ne_nan {i : Int} {D : Nat} {x : UInt64} (h : Ra i D x) : val64 x ≠ .nan := h.1.ne_nan
theorem oz : (0 : Int) < (one64 : Int) := Int.natCast_pos.mpr one64_pos
theorem nan_of {x : UInt64} (h : NoNaN64 x) : val64 x ≠ .nan := (notNaN_iff x).mp (noNaN64_no.mp h)
theorem mulc {a b c : Int} (hc : c ≠ 0) (h : a * c = b * c) : a = b := Int.eq_of_mul_eq_mul_right hc h
theorem al_scale {z D D' i i' o : Int} (h : z * D = i * o) (e : i * D' = i' * D) : z * D' * D = i' * o * D := by
  calc z * D' * D = z * D * D' := by ac_rfl
    _ = i * o * D' := by rw [h]
    _ = i * D' * o := by ac_rfl
    _ = i' * o * D := by rw [e]; ac_rfl
theorem al_mul {x y v D E i j o : Int} (hx : x * D = i * o) (hy : y * E = j * o) (hv : v * (D * E) = i * j * o) : x * y * (D * E) = v * o * (D * E) := by
  calc x * y * (D * E) = (x * D) * (y * E) := by ac_rfl
    _ = (i * o) * (j * o) := by rw [hx, hy]
    _ = (i * j * o) * o := by ac_rfl
    _ = v * (D * E) * o := by rw [hv]
    _ = v * o * (D * E) := by ac_rfl
theorem al_mulr {x y v D E F i j r o : Int} (hx : x * D = i * o) (hy : y * E = j * o) (hv : v * F = r * o) (h : i * j * F = r * (D * E)) : x * y * D * E * F = v * o * D * E * F := by
  calc x * y * D * E * F = (x * D) * (y * E) * F := by ac_rfl
    _ = (i * j * F) * (o * o) := by rw [hx, hy]; ac_rfl
    _ = (r * o) * o * (D * E) := by rw [h]; ac_rfl
    _ = (v * F) * o * (D * E) := by rw [hv]
    _ = v * o * D * E * F := by ac_rfl
theorem al_div {x y v D E F i j r o : Int} (hx : x * D = i * o) (hy : y * E = j * o) (hv : v * F = r * o) (h : i * E * F = r * (j * D)) : x * o * D * E * F = v * y * D * E * F := by
  calc x * o * D * E * F = (x * D) * (o * E * F) := by ac_rfl
    _ = (i * E * F) * (o * o) := by rw [hx]; ac_rfl
    _ = (r * o) * (j * o) * D := by rw [h]; ac_rfl
    _ = (v * F) * (y * E) * D := by rw [hv, hy]
    _ = v * y * D * E * F := by ac_rfl
theorem al_units {V d P Q : Nat} : V * P * d * Q = (V * (d * Q)) * P := by ac_rfl
theorem al_mag {i P D o : Nat} (h : i ≤ P * D) : i * o ≤ P * o * D := by
  calc i * o ≤ P * D * o := Nat.mul_le_mul_right _ h
    _ = P * o * D := by ac_rfl
theorem rep {i : Int} {D k : Nat} (hi : i.natAbs < 9007199254740992) (hD : D = 2 ^ k) (hk : k ≤ 1000) : ∃ V, Ra i D V := by
  have hc : i.natAbs < 2 ^ b64.p := by rw [show (2 : Nat) ^ b64.p = 9007199254740992 by decide +kernel]; exact hi
  have hq2 : b64.qmax = 971 := by decide
  obtain ⟨c', q', h1, h2⟩ := round_exact good_b64 (decide (i < 0)) (c := i.natAbs) (q := -(k : Int)) hc (by rw [qmin_b64]; omega) (by rw [hq2]; omega)
  refine ⟨of64 (round b64 (.fin (decide (i < 0)) i.natAbs (-(k : Int)))), ⟨_, _, _, by rw [val64_of64 (round_fits good_b64 _), h1]⟩, ?_⟩
  unfold zv
  rw [val64_of64 (round_fits good_b64 _), h1]
  show signed (decide (i < 0)) (inUnits c' q' b64.qmin) * _ = _
  rw [h2]
  unfold inUnits
  have e1 : signed (decide (i < 0)) i.natAbs = i := by unfold signed; by_cases h : i < 0 <;> simp [h] <;> omega
  have e2 : (-(k : Int) - b64.qmin).toNat + k = 1074 := by rw [qmin_b64]; omega
  rw [signed_mul, e1, Int.mul_assoc, hD, ← Int.natCast_mul, ← Nat.pow_add, e2]
  rfl
theorem fin_of {x V : UInt64} (hn : val64 x ≠ .nan) (hV : DFin V) (h : zv x = zv V) : DFin x := by
  cases hx : val64 x with
  | nan => exact absurd hx hn
  | fin s c q => exact ⟨s, c, q, hx⟩
  | inf s =>
    exfalso
    have h1 := hV.zval_lt
    unfold zv zval at h
    rw [hx] at h
    have h2 := congrArg Int.natAbs h
    rw [natAbs_signed, natAbs_signed] at h2
    exact absurd h2.symm (Nat.ne_of_lt h1)
theorem Ra.scale {i i' : Int} {D D' : Nat} {x : UInt64} (h : Ra i D x) (hD : 0 < D) (e : i * (D' : Int) = i' * (D : Int)) : Ra i' D' x := by
  exact ⟨h.1, mulc (c := (D : Int)) (by omega) (al_scale h.2 e)⟩
theorem Ra.same {i i' : Int} {D : Nat} {x : UInt64} (h : Ra i D x) (e : i = i') : Ra i' D x := e ▸ h
theorem Ra.add {i j : Int} {D k : Nat} {x y : UInt64} (hx : Ra i D x) (hy : Ra j D y) (h : (i + j).natAbs < 9007199254740992) (hD : D = 2 ^ k) (hk : k ≤ 1000) : Ra (i + j) D (FP.dadd x y) := by
  obtain ⟨V, hV⟩ := rep h hD hk
  have hD0 : (D : Int) ≠ 0 := by rw [hD]; exact Int.ne_of_gt (Int.natCast_pos.mpr (Nat.two_pow_pos k))
  have hs : zval b64 (val64 x) + zval b64 (val64 y) = zval b64 (val64 V) := mulc hD0 (by
    have a := hx.2; have b := hy.2; have c := hV.2
    unfold zv at a b c
    rw [Int.add_mul, a, b, c, Int.add_mul])
  have hz : zv (Core.dadd x y) = zv V := by
    unfold zv
    rw [val64_dadd]
    exact Int.le_antisymm (sum_le good_b64 hx.1 hy.1 (val64_fits x) (val64_fits y) (val64_fits V) hV.ne_nan (Int.le_of_eq hs)) (sum_ge good_b64 hx.1 hy.1 (val64_fits x) (val64_fits y) (val64_fits V) hV.ne_nan (Int.le_of_eq hs.symm))
  exact ⟨fin_of ((notNaN_iff _).mp (dadd_out hx.1.notNaN hy.1)) hV.1 hz, by show zv (Core.dadd x y) * _ = _; rw [hz, hV.2]⟩
theorem fin_negate {x : UInt64} (h : DFin x) : ∃ s c q, negate (val64 x) = .fin s c q := by
  obtain ⟨s, c, q, h⟩ := h; exact ⟨!s, c, q, by rw [h]; rfl⟩
theorem Ra.sub {i j : Int} {D k : Nat} {x y : UInt64} (hx : Ra i D x) (hy : Ra j D y) (h : (i - j).natAbs < 9007199254740992) (hD : D = 2 ^ k) (hk : k ≤ 1000) : Ra (i - j) D (FP.dsub x y) := by
  obtain ⟨V, hV⟩ := rep h hD hk
  have hD0 : (D : Int) ≠ 0 := by rw [hD]; exact Int.ne_of_gt (Int.natCast_pos.mpr (Nat.two_pow_pos k))
  have hs : zval b64 (val64 x) + zval b64 (negate (val64 y)) = zval b64 (val64 V) := mulc hD0 (by
    have a := hx.2; have b := hy.2; have c := hV.2
    unfold zv at a b c
    rw [zval_negate, Int.add_mul, Int.neg_mul, a, b, c, Int.sub_mul]
    omega)
  have hz : zv (Core.dsub x y) = zv V := by
    unfold zv
    rw [val64_dsub]
    exact Int.le_antisymm (sum_le good_b64 hx.1 (fin_negate hy.1) (val64_fits x) (negate_fits (val64_fits y)) (val64_fits V) hV.ne_nan (Int.le_of_eq hs)) (sum_ge good_b64 hx.1 (fin_negate hy.1) (val64_fits x) (negate_fits (val64_fits y)) (val64_fits V) hV.ne_nan (Int.le_of_eq hs.symm))
  exact ⟨fin_of ((notNaN_iff _).mp (dsub_out hx.1.notNaN hy.1)) hV.1 hz, by show zv (Core.dsub x y) * _ = _; rw [hz, hV.2]⟩
theorem qq : (b64.qmin - 2 * b64.qmin).toNat = (-b64.qmin).toNat := by rw [qmin_b64]; decide
/-- a product, held against a double -/
theorem mul_le {x y V : UInt64} (hx : DFin x) (hy : DFin y) (hV : val64 V ≠ .nan) (h : zv x * zv y ≤ zv V * (one64 : Int)) : zv (Core.dmul x y) ≤ zv V := by
  obtain ⟨s, c, q, ex⟩ := hx
  obtain ⟨t, d, r, ey⟩ := hy
  have fx := val64_fits x; have fy := val64_fits y
  rw [ex] at fx; rw [ey] at fy
  obtain ⟨p1, p2, p3⟩ := product_units fx fy
  unfold zv at h ⊢
  rw [val64_dmul, ex, ey, p1]
  rw [ex, ey] at h
  exact zval_round_le good_b64 (val64_fits V) hV (e0 := 2 * b64.qmin) (by rw [qmin_b64]; decide) p2 (by rw [p3, signed_xor, qq, pow_qmin64]; exact h)
theorem mul_ge {x y V : UInt64} (hx : DFin x) (hy : DFin y) (hV : val64 V ≠ .nan) (h : zv V * (one64 : Int) ≤ zv x * zv y) : zv V ≤ zv (Core.dmul x y) := by
  obtain ⟨s, c, q, ex⟩ := hx
  obtain ⟨t, d, r, ey⟩ := hy
  have fx := val64_fits x; have fy := val64_fits y
  rw [ex] at fx; rw [ey] at fy
  obtain ⟨p1, p2, p3⟩ := product_units fx fy
  unfold zv at h ⊢
  rw [val64_dmul, ex, ey, p1]
  rw [ex, ey] at h
  exact zval_round_ge good_b64 (val64_fits V) hV (e0 := 2 * b64.qmin) (by rw [qmin_b64]; decide) p2 (by rw [p3, signed_xor, qq, pow_qmin64]; exact h)
/-- the product's worth, where it is a double's -/
theorem mul_zv {x y V : UInt64} (hx : DFin x) (hy : DFin y) (hV : val64 V ≠ .nan) (h : zv x * zv y = zv V * (one64 : Int)) : zv (Core.dmul x y) = zv V :=
  Int.le_antisymm (mul_le hx hy hV (Int.le_of_eq h)) (mul_ge hx hy hV (Int.le_of_eq h.symm))
theorem Ra.mul {i j : Int} {D E k : Nat} {x y : UInt64} (hx : Ra i D x) (hy : Ra j E y) (h : (i * j).natAbs < 9007199254740992) (hD : D * E = 2 ^ k) (hk : k ≤ 1000) : Ra (i * j) (D * E) (FP.dmul x y) := by
  obtain ⟨V, hV⟩ := rep h hD hk
  have hD0 : ((D * E : Nat) : Int) ≠ 0 := by rw [hD]; exact Int.ne_of_gt (Int.natCast_pos.mpr (Nat.two_pow_pos k))
  have hv := hV.2
  rw [Int.natCast_mul] at hv hD0
  have hs : zv x * zv y = zv V * (one64 : Int) := mulc hD0 (al_mul hx.2 hy.2 hv)
  have hz : zv (Core.dmul x y) = zv V := mul_zv hx.1 hy.1 hV.ne_nan hs
  exact ⟨fin_of ((notNaN_iff _).mp (dmul_out hx.1 hy.1)) hV.1 hz, by show zv (Core.dmul x y) * _ = _; rw [hz, hV.2]⟩
/-- a product written in its least terms -/
theorem Ra.mulr {i j r : Int} {D E F k : Nat} {x y : UInt64} (hx : Ra i D x) (hy : Ra j E y) (hD : 0 < D) (hE : 0 < E) (hr : r.natAbs < 9007199254740992) (hF : F = 2 ^ k) (hk : k ≤ 1000) (h : i * j * (F : Int) = r * ((D : Int) * (E : Int))) : Ra r F (FP.dmul x y) := by
  obtain ⟨V, hV⟩ := rep hr hF hk
  have hF0 : (F : Int) ≠ 0 := by rw [hF]; exact Int.ne_of_gt (Int.natCast_pos.mpr (Nat.two_pow_pos k))
  have hs : zv x * zv y = zv V * (one64 : Int) := by
    exact mulc (c := (D : Int)) (by omega) (mulc (c := (E : Int)) (by omega) (mulc hF0 (al_mulr hx.2 hy.2 hV.2 h)))
  have hz : zv (Core.dmul x y) = zv V := mul_zv hx.1 hy.1 hV.ne_nan hs
  exact ⟨fin_of ((notNaN_iff _).mp (dmul_out hx.1 hy.1)) hV.1 hz, by show zv (Core.dmul x y) * _ = _; rw [hz, hV.2]⟩
theorem zv_abs (x : UInt64) : (zv x).natAbs = zmag b64 (val64 x) := by unfold zv zval; rw [natAbs_signed]
/-- the quotient's parts -/
theorem div_parts {x y : UInt64} (hx : DFin x) (hy : DFin y) (hz : zv y ≠ 0) : ∃ s t c d q r, val64 x = .fin s c q ∧ val64 y = .fin t d r ∧ 0 < d ∧ b64.qmin ≤ q ∧ b64.qmin ≤ r ∧ zmag b64 (val64 x) = c * 2 ^ (q - b64.qmin).toNat ∧ zmag b64 (val64 y) = d * 2 ^ (r - b64.qmin).toNat ∧ val64 (Core.ddiv x y) = roundRatio b64 (s != t) c d (q - r) := by
  obtain ⟨s, c, q, ex⟩ := hx
  obtain ⟨t, d, r, ey⟩ := hy
  have fx := val64_fits x; have fy := val64_fits y
  rw [ex] at fx; rw [ey] at fy
  have hd : d ≠ 0 := fun h => hz (by unfold zv; rw [ey, h]; simp [zval, zmag, sgn, inUnits, signed])
  refine ⟨s, t, c, d, q, r, ex, ey, Nat.pos_of_ne_zero hd, fx.2.1, fy.2.1, by rw [ex]; rfl, by rw [ey]; rfl, ?_⟩
  rw [val64_ddiv, ex, ey]
  show (if d = 0 then _ else roundRatio b64 (s != t) c d (q - r)) = _
  rw [if_neg hd]
theorem div_units {c d V : Nat} {q r e : Int} (hq : b64.qmin ≤ q) (hr : b64.qmin ≤ r) (h1 : e ≤ b64.qmin) (h2 : e ≤ q - r) :
    inUnits c (q - r) e * 2 ^ (r - b64.qmin).toNat = (c * 2 ^ (q - b64.qmin).toNat * one64) * 2 ^ (b64.qmin - e).toNat ∧
      V * 2 ^ (b64.qmin - e).toNat * d * 2 ^ (r - b64.qmin).toNat = (V * (d * 2 ^ (r - b64.qmin).toNat)) * 2 ^ (b64.qmin - e).toNat := by
  refine ⟨?_, al_units⟩
  have hn : b64.qmin < 0 := by rw [qmin_b64]; decide
  unfold inUnits
  rw [← pow_qmin64, Nat.mul_assoc, Nat.mul_assoc, Nat.mul_assoc, ← Nat.pow_add, ← Nat.pow_add, ← Nat.pow_add]
  congr 2
  omega
theorem div_mag_le {x y V : UInt64} (hx : DFin x) (hy : DFin y) (hz : zv y ≠ 0) (hV : val64 V ≠ .nan) (h : (zv x).natAbs * one64 ≤ (zv V).natAbs * (zv y).natAbs) : (zv (Core.ddiv x y)).natAbs ≤ (zv V).natAbs := by
  obtain ⟨s, t, c, d, q, r, ex, ey, hd, hq, hr, mx, my, hv⟩ := div_parts hx hy hz
  rw [zv_abs, zv_abs, hv]
  rw [zv_abs, zv_abs, zv_abs, mx, my] at h
  refine zmag_roundRatio_le good_b64 hd (val64_fits V) hV (e0 := min b64.qmin (q - r)) (by omega) (by omega) ?_
  obtain ⟨u1, u2⟩ := div_units (c := c) (d := d) (V := zmag b64 (val64 V)) hq hr (e := min b64.qmin (q - r)) (by omega) (by omega)
  refine Nat.le_of_mul_le_mul_right (c := 2 ^ (r - b64.qmin).toNat) ?_ (Nat.two_pow_pos _)
  rw [u1, u2]
  exact Nat.mul_le_mul_right _ h
theorem div_mag_ge {x y V : UInt64} (hx : DFin x) (hy : DFin y) (hz : zv y ≠ 0) (h : (zv V).natAbs * (zv y).natAbs ≤ (zv x).natAbs * one64) : (zv V).natAbs ≤ (zv (Core.ddiv x y)).natAbs := by
  obtain ⟨s, t, c, d, q, r, ex, ey, hd, hq, hr, mx, my, hv⟩ := div_parts hx hy hz
  rw [zv_abs, zv_abs, hv]
  rw [zv_abs, zv_abs, zv_abs, mx, my] at h
  refine zmag_roundRatio_ge good_b64 hd (val64_fits V) (e0 := min b64.qmin (q - r)) (by omega) (by omega) ?_
  obtain ⟨u1, u2⟩ := div_units (c := c) (d := d) (V := zmag b64 (val64 V)) hq hr (e := min b64.qmin (q - r)) (by omega) (by omega)
  refine Nat.le_of_mul_le_mul_right (c := 2 ^ (r - b64.qmin).toNat) ?_ (Nat.two_pow_pos _)
  rw [u1, u2]
  exact Nat.mul_le_mul_right _ h
theorem zv_sgn (x : UInt64) : zv x = signed (sgn (val64 x)) (zv x).natAbs := by rw [zv_abs]; rfl
theorem div_sgn {x y : UInt64} (hx : DFin x) (hy : DFin y) (hz : zv y ≠ 0) : sgn (val64 (Core.ddiv x y)) = (sgn (val64 x) != sgn (val64 y)) := by
  obtain ⟨s, t, c, d, q, r, ex, ey, -, -, -, -, -, hv⟩ := div_parts hx hy hz
  rw [hv, sgn_roundRatio, ex, ey]; rfl
theorem sgn_pos {x : UInt64} (h : 0 < zv x) : sgn (val64 x) = false := by
  rw [zv_sgn] at h
  cases hs : sgn (val64 x) with
  | false => rfl
  | true => rw [hs] at h; simp [signed] at h; omega
theorem div_nonneg {x y : UInt64} (hx : DFin x) (hy : DFin y) (h1 : 0 < zv x) (h2 : 0 < zv y) : zv (Core.ddiv x y) = ((zv (Core.ddiv x y)).natAbs : Int) := by
  have h := div_sgn hx hy (Int.ne_of_gt h2)
  rw [sgn_pos h1, sgn_pos h2] at h
  rw [zv_sgn (Core.ddiv x y), h]; simp [signed]
theorem div_ge {x y V : UInt64} (hx : DFin x) (hy : DFin y) (h1 : 0 < zv x) (h2 : 0 < zv y) (hV : 0 ≤ zv V) (h : zv V * zv y ≤ zv x * (one64 : Int)) : zv V ≤ zv (Core.ddiv x y) := by
  have k : (zv V).natAbs * (zv y).natAbs ≤ (zv x).natAbs * one64 := by
    have e1 : ((zv V).natAbs : Int) = zv V := by omega
    have e2 : ((zv y).natAbs : Int) = zv y := by omega
    have e3 : ((zv x).natAbs : Int) = zv x := by omega
    refine Int.ofNat_le.mp ?_
    rw [Int.natCast_mul, Int.natCast_mul, e1, e2, e3]; exact h
  have := div_mag_ge hx hy (Int.ne_of_gt h2) k
  rw [div_nonneg hx hy h1 h2]; omega
theorem div_le {x y V : UInt64} (hx : DFin x) (hy : DFin y) (h1 : 0 < zv x) (h2 : 0 < zv y) (hn : val64 V ≠ .nan) (hV : 0 ≤ zv V) (h : zv x * (one64 : Int) ≤ zv V * zv y) : zv (Core.ddiv x y) ≤ zv V := by
  have k : (zv x).natAbs * one64 ≤ (zv V).natAbs * (zv y).natAbs := by
    have e1 : ((zv V).natAbs : Int) = zv V := by omega
    have e2 : ((zv y).natAbs : Int) = zv y := by omega
    have e3 : ((zv x).natAbs : Int) = zv x := by omega
    refine Int.ofNat_le.mp ?_
    rw [Int.natCast_mul, Int.natCast_mul, e1, e2, e3]; exact h
  have := div_mag_le hx hy (Int.ne_of_gt h2) hn k
  rw [div_nonneg hx hy h1 h2]; omega
theorem signed_inj {s t : Bool} {n : Nat} (hn : n ≠ 0) (h : signed s n = signed t n) : s = t := by
  cases s <;> cases t <;> simp [signed] at h ⊢ <;> omega
theorem xor_back {s t v : Bool} (h : s = (v != t)) : (s != t) = v := by cases s <;> cases t <;> cases v <;> simp_all
/-- the quotient's worth, where it is a double's -/
theorem div_zv {x y V : UInt64} (hx : DFin x) (hy : DFin y) (hz : zv y ≠ 0) (hV : DFin V) (h : zv x * (one64 : Int) = zv V * zv y) : zv (Core.ddiv x y) = zv V := by
  have ha : (zv x).natAbs * one64 = (zv V).natAbs * (zv y).natAbs := by
    have := congrArg Int.natAbs h
    rwa [Int.natAbs_mul, Int.natAbs_mul, Int.natAbs_natCast] at this
  have hm : (zv (Core.ddiv x y)).natAbs = (zv V).natAbs := Nat.le_antisymm (div_mag_le hx hy hz hV.ne_nan (Nat.le_of_eq ha)) (div_mag_ge hx hy hz (Nat.le_of_eq ha.symm))
  rw [zv_sgn (Core.ddiv x y), hm, div_sgn hx hy hz]
  by_cases h0 : (zv V).natAbs = 0
  · rw [h0, Int.natAbs_eq_zero.mp h0]; exact signed_zero _
  · have k : signed (sgn (val64 x)) ((zv x).natAbs * one64) = zv x * (one64 : Int) := by rw [signed_mul, ← zv_sgn]
    rw [ha] at k
    have k2 : signed (sgn (val64 V) != sgn (val64 y)) ((zv V).natAbs * (zv y).natAbs) = zv V * zv y := by rw [signed_xor, ← zv_sgn, ← zv_sgn]
    have e := xor_back (signed_inj (n := (zv V).natAbs * (zv y).natAbs) (Nat.mul_ne_zero h0 (fun q => hz (Int.natAbs_eq_zero.mp q))) (k.trans (h.trans k2.symm)))
    rw [e, ← zv_sgn]
theorem Ra.div {i j r : Int} {D E F k : Nat} {x y : UInt64} (hx : Ra i D x) (hy : Ra j E y) (hD : 0 < D) (hE : 0 < E) (hj : j ≠ 0) (hr : r.natAbs < 9007199254740992) (hF : F = 2 ^ k) (hk : k ≤ 1000) (h : i * (E : Int) * (F : Int) = r * (j * (D : Int))) : Ra r F (FP.ddiv x y) := by
  obtain ⟨V, hV⟩ := rep hr hF hk
  have hF0 : (F : Int) ≠ 0 := by rw [hF]; exact Int.ne_of_gt (Int.natCast_pos.mpr (Nat.two_pow_pos k))
  have hy0 : zv y ≠ 0 := fun q => by
    have := hy.2; rw [q, Int.zero_mul] at this
    exact (Int.mul_ne_zero hj (Int.ne_of_gt oz)) this.symm
  have hs : zv x * (one64 : Int) = zv V * zv y := by
    exact mulc (c := (D : Int)) (by omega) (mulc (c := (E : Int)) (by omega) (mulc hF0 (al_div hx.2 hy.2 hV.2 h)))
  have hz : zv (Core.ddiv x y) = zv V := div_zv hx.1 hy.1 hy0 hV.1 hs
  have hyz : ¬ DZero y := fun q => hy0 (by unfold zv; exact DZero.zval q)
  exact ⟨fin_of ((notNaN_iff _).mp (ddiv_out hx.1.notNaN hy.1 hyz)) hV.1 hz, by show zv (Core.ddiv x y) * _ = _; rw [hz, hV.2]⟩
/-- two quotients of one ratio are of one worth -/
theorem div_alike {x y x' y' : UInt64} (hx : DFin x) (hy : DFin y) (hx' : DFin x') (hy' : DFin y') (hz : zv y ≠ 0) (hz' : zv y' ≠ 0) (h : zv x * zv y' = zv x' * zv y) : zv (Core.ddiv x y) = zv (Core.ddiv x' y') := by
  have ha : (zv x).natAbs * (zv y').natAbs = (zv x').natAbs * (zv y).natAbs := by
    have := congrArg Int.natAbs h
    rwa [Int.natAbs_mul, Int.natAbs_mul] at this
  have hsg := div_sgn hx hy hz
  have hsg' := div_sgn hx' hy' hz'
  obtain ⟨s, t, c, d, q, r, ex, ey, hd, hq, hr, mx, my, hv⟩ := div_parts hx hy hz
  obtain ⟨s', t', c', d', q', r', ex', ey', hd', hq', hr', mx', my', hv'⟩ := div_parts hx' hy' hz'
  have hm : (zv (Core.ddiv x y)).natAbs = (zv (Core.ddiv x' y')).natAbs := by
    rw [zv_abs, zv_abs, zv_abs, zv_abs, mx, my, mx', my'] at ha
    rw [zv_abs, zv_abs, hv, hv']
    have e : roundRatio b64 (s != t) c d (q - r) = roundRatio b64 (s != t) c' d' (q' - r') := by
      refine roundRatio_congr hd hd' ?_
      have g1 : ∃ T, (q - b64.qmin).toNat + (r' - b64.qmin).toNat = (q - r - (q' - r')).toNat + T ∧ (q' - b64.qmin).toNat + (r - b64.qmin).toNat = (q' - r' - (q - r)).toNat + T := ⟨(min ((q - b64.qmin) + (r' - b64.qmin)) ((q' - b64.qmin) + (r - b64.qmin))).toNat, by omega, by omega⟩
      obtain ⟨T, g1, g2⟩ := g1
      refine Nat.eq_of_mul_eq_mul_right (Nat.two_pow_pos T) ?_
      calc c * d' * 2 ^ (q - r - (q' - r')).toNat * 2 ^ T = (c * 2 ^ (q - b64.qmin).toNat) * (d' * 2 ^ (r' - b64.qmin).toNat) := by rw [Nat.mul_assoc, ← Nat.pow_add, ← g1, Nat.pow_add]; ac_rfl
        _ = (c' * 2 ^ (q' - b64.qmin).toNat) * (d * 2 ^ (r - b64.qmin).toNat) := ha
        _ = c' * d * 2 ^ (q' - r' - (q - r)).toNat * 2 ^ T := by rw [Nat.mul_assoc (c' * d), ← Nat.pow_add, ← g2, Nat.pow_add]; ac_rfl
    rw [e]
    rcases roundRatio_cases b64 (s != t) c' d' (q' - r') with ⟨a, b, g⟩ | g <;> rcases roundRatio_cases b64 (s' != t') c' d' (q' - r') with ⟨a', b', g'⟩ | g'
    all_goals first
      | (have := negate_roundRatio b64 (s' != t') c' d' (q' - r')
         by_cases w : (s != t) = (s' != t')
         · rw [w]
         · rw [show (s != t) = !(s' != t') by cases s <;> cases t <;> cases s' <;> cases t' <;> simp_all, ← this]
           rw [g']; rfl)
  rw [zv_sgn (Core.ddiv x y), zv_sgn (Core.ddiv x' y'), hm, hsg, hsg']
  by_cases h0 : (zv (Core.ddiv x' y')).natAbs = 0
  · rw [h0, signed_zero, signed_zero]
  · by_cases hx0 : (zv x').natAbs = 0
    · exfalso; apply h0
      have := div_mag_le (V := (0 : UInt64)) hx' hy' hz' (by rw [val64_zero]; exact Datum.noConfusion) (by rw [hx0, Nat.zero_mul]; exact Nat.zero_le _)
      have z0 : zv 0 = 0 := zval64_zero
      rw [z0] at this; simpa using this
    · congr 1
      have hy1 : (zv y).natAbs ≠ 0 := fun q => hz (Int.natAbs_eq_zero.mp q)
      have k : signed (sgn (val64 x) != sgn (val64 y')) ((zv x').natAbs * (zv y).natAbs) = signed (sgn (val64 x') != sgn (val64 y)) ((zv x').natAbs * (zv y).natAbs) := by
        rw [← ha, signed_xor, ha, signed_xor, ← zv_sgn, ← zv_sgn, ← zv_sgn, ← zv_sgn]; exact h
      have k2 := signed_inj (Nat.mul_ne_zero hx0 hy1) k
      revert k2
      generalize sgn (val64 x) = a; generalize sgn (val64 y) = b; generalize sgn (val64 x') = a'; generalize sgn (val64 y') = b'
      cases a <;> cases b <;> cases a' <;> cases b' <;> simp
/-- comparisons -/
theorem cv_lt {x y : UInt64} (nx : val64 x ≠ .nan) (ny : val64 y ≠ .nan) (h : zv x < zv y) (o : Jvm.ClassFile.CmpOp) : Jvm.Op.cmpValue (FP.dcmp x y) o = -1 := by
  rw [show FP.dcmp x y = some .lt from dcmp_lt.mpr ⟨nx, ny, h⟩]; cases o <;> rfl
theorem cv_eq {x y : UInt64} (nx : val64 x ≠ .nan) (ny : val64 y ≠ .nan) (h : zv x = zv y) (o : Jvm.ClassFile.CmpOp) : Jvm.Op.cmpValue (FP.dcmp x y) o = 0 := by
  rw [show FP.dcmp x y = some .eq from dcmp_eq.mpr ⟨nx, ny, h⟩]; cases o <;> rfl
theorem cv_gt {x y : UInt64} (nx : val64 x ≠ .nan) (ny : val64 y ≠ .nan) (h : zv y < zv x) (o : Jvm.ClassFile.CmpOp) : Jvm.Op.cmpValue (FP.dcmp x y) o = 1 := by
  rw [show FP.dcmp x y = some .gt from dcmp_gt.mpr ⟨nx, ny, h⟩]; cases o <;> rfl
theorem cv_le {x y : UInt64} (nx : val64 x ≠ .nan) (ny : val64 y ≠ .nan) (h : zv x ≤ zv y) (o : Jvm.ClassFile.CmpOp) : ¬ (0 : Int32) < Jvm.Op.cmpValue (FP.dcmp x y) o := by
  rcases Int.lt_or_eq_of_le h with q | q
  · rw [cv_lt nx ny q]; decide
  · rw [cv_eq nx ny q]; decide
theorem cv_ge {x y : UInt64} (nx : val64 x ≠ .nan) (ny : val64 y ≠ .nan) (h : zv y ≤ zv x) (o : Jvm.ClassFile.CmpOp) : ¬ Jvm.Op.cmpValue (FP.dcmp x y) o < (0 : Int32) := by
  rcases Int.lt_or_eq_of_le h with q | q
  · rw [cv_gt nx ny q]; decide
  · rw [cv_eq nx ny q.symm]; decide
theorem cv_lt' {x y : UInt64} (nx : val64 x ≠ .nan) (ny : val64 y ≠ .nan) (h : zv x < zv y) (o : Jvm.ClassFile.CmpOp) : Jvm.Op.cmpValue (FP.dcmp x y) o < (0 : Int32) := by rw [cv_lt nx ny h]; decide
theorem cv_gt' {x y : UInt64} (nx : val64 x ≠ .nan) (ny : val64 y ≠ .nan) (h : zv y < zv x) (o : Jvm.ClassFile.CmpOp) : (0 : Int32) < Jvm.Op.cmpValue (FP.dcmp x y) o := by rw [cv_gt nx ny h]; decide
theorem zv_lt {i j : Int} {D : Nat} {x y : UInt64} (hx : Ra i D x) (hy : Ra j D y) (hD : 0 < D) (h : i < j) : zv x < zv y := by
  refine Int.lt_of_mul_lt_mul_right (a := (D : Int)) ?_ (by omega)
  rw [hx.2, hy.2]; exact Int.mul_lt_mul_of_pos_right h oz
theorem zv_eq {i j : Int} {D : Nat} {x y : UInt64} (hx : Ra i D x) (hy : Ra j D y) (hD : 0 < D) (h : i = j) : zv x = zv y :=
  mulc (c := (D : Int)) (by omega) (by rw [hx.2, hy.2, h])
theorem Ra.lt {i j : Int} {D : Nat} {x y : UInt64} (hx : Ra i D x) (hy : Ra j D y) (hD : 0 < D) (h : i < j) (o : Jvm.ClassFile.CmpOp) : Jvm.Op.cmpValue (FP.dcmp x y) o = -1 := cv_lt hx.ne_nan hy.ne_nan (zv_lt hx hy hD h) o
theorem Ra.gt {i j : Int} {D : Nat} {x y : UInt64} (hx : Ra i D x) (hy : Ra j D y) (hD : 0 < D) (h : j < i) (o : Jvm.ClassFile.CmpOp) : Jvm.Op.cmpValue (FP.dcmp x y) o = 1 := cv_gt hx.ne_nan hy.ne_nan (zv_lt hy hx hD h) o
theorem Ra.eq {i j : Int} {D : Nat} {x y : UInt64} (hx : Ra i D x) (hy : Ra j D y) (hD : 0 < D) (h : i = j) (o : Jvm.ClassFile.CmpOp) : Jvm.Op.cmpValue (FP.dcmp x y) o = 0 := cv_eq hx.ne_nan hy.ne_nan (zv_eq hx hy hD h) o
theorem zv_le {i j : Int} {D : Nat} {x y : UInt64} (hx : Ra i D x) (hy : Ra j D y) (hD : 0 < D) (h : i ≤ j) : zv x ≤ zv y := by
  rcases Int.lt_or_eq_of_le h with q | q
  · exact Int.le_of_lt (zv_lt hx hy hD q)
  · exact Int.le_of_eq (zv_eq hx hy hD q)
theorem Ra.le {i j : Int} {D : Nat} {x y : UInt64} (hx : Ra i D x) (hy : Ra j D y) (hD : 0 < D) (h : i ≤ j) (o : Jvm.ClassFile.CmpOp) : ¬ (0 : Int32) < Jvm.Op.cmpValue (FP.dcmp x y) o := cv_le hx.ne_nan hy.ne_nan (zv_le hx hy hD h) o
theorem Ra.ge {i j : Int} {D : Nat} {x y : UInt64} (hx : Ra i D x) (hy : Ra j D y) (hD : 0 < D) (h : j ≤ i) (o : Jvm.ClassFile.CmpOp) : ¬ Jvm.Op.cmpValue (FP.dcmp x y) o < (0 : Int32) := cv_ge hx.ne_nan hy.ne_nan (zv_le hy hx hD h) o
theorem Ra.lt' {i j : Int} {D : Nat} {x y : UInt64} (hx : Ra i D x) (hy : Ra j D y) (hD : 0 < D) (h : i < j) (o : Jvm.ClassFile.CmpOp) : Jvm.Op.cmpValue (FP.dcmp x y) o < (0 : Int32) := cv_lt' hx.ne_nan hy.ne_nan (zv_lt hx hy hD h) o
theorem Ra.gt' {i j : Int} {D : Nat} {x y : UInt64} (hx : Ra i D x) (hy : Ra j D y) (hD : 0 < D) (h : j < i) (o : Jvm.ClassFile.CmpOp) : (0 : Int32) < Jvm.Op.cmpValue (FP.dcmp x y) o := cv_gt' hx.ne_nan hy.ne_nan (zv_lt hy hx hD h) o
theorem Ra.of_int {i : Int} {x : UInt64} (h : DInt i x) (hf : DFin x) : Ra i 1 x := ⟨hf, by show zval b64 (val64 x) * _ = _; rw [DInt_zval h]; show _ * (1 : Int) = _; rw [Int.mul_one]⟩
theorem Ra.i2d (a : Int32) : Ra a.toInt 1 (FP.i2d a) := Ra.of_int (i2d_int a) (Core.i2d_fin a)
theorem Ra.l2d {a : Int64} (h : a.toInt.natAbs ≤ 9007199254740992) : Ra a.toInt 1 (FP.l2d a) := Ra.of_int (l2d_int h) (Core.l2d_fin a)
/-- a written constant -/
theorem Ra.lit {x : UInt64} {s : Bool} {c D n : Nat} {q i : Int} {k : Nat} (h : val64 x = .fin s c q) (hD : D = 2 ^ k) (hq : q = -((k + n : Nat) : Int)) (hk : k + n ≤ 1074) (e : signed s c = i * ((2 ^ n : Nat) : Int)) : Ra i D x := by
  refine ⟨⟨s, c, q, h⟩, ?_⟩
  unfold zv
  rw [h]
  show signed s (inUnits c q b64.qmin) * _ = _
  unfold inUnits
  have e2 : n + (q - b64.qmin).toNat + k = 1074 := by rw [qmin_b64]; omega
  rw [signed_mul, e, hD, Int.mul_assoc, Int.mul_assoc, ← Int.natCast_mul, ← Int.natCast_mul, ← Nat.pow_add, ← Nat.pow_add, ← Nat.add_assoc, e2]
  rfl
theorem zv_neg (x : UInt64) : zv (FP.dneg x) = -zv x := by unfold zv; rw [Jvm.FP.val64_dneg, zval_negate]
theorem Ra.neg {i : Int} {D : Nat} {x : UInt64} (h : Ra i D x) : Ra (-i) D (FP.dneg x) := by
  obtain ⟨⟨s, c, q, ex⟩, e⟩ := h
  exact ⟨⟨!s, c, q, by rw [Jvm.FP.val64_dneg, ex]; rfl⟩, by rw [zv_neg, Int.neg_mul, e, Int.neg_mul]⟩
/-- exact products of longs -/
theorem lmul_of {x y : Int64} {a b : Int} (hx : x.toInt = a) (hy : y.toInt = b) (h1 : -9223372036854775808 ≤ a * b) (h2 : a * b < 9223372036854775808) : (x * y).toInt = a * b := by
  rw [int64_mul (by rw [hx, hy]; exact h1) (by rw [hx, hy]; exact h2), hx, hy]
theorem ladd_of {x y : Int64} {a b : Int} (hx : x.toInt = a) (hy : y.toInt = b) (h1 : -9223372036854775808 ≤ a + b) (h2 : a + b < 9223372036854775808) : (x + y).toInt = a + b := by
  rw [int64_add (by rw [hx, hy]; exact h1) (by rw [hx, hy]; exact h2), hx, hy]
theorem lsub_of {x y : Int64} {a b : Int} (hx : x.toInt = a) (hy : y.toInt = b) (h1 : -9223372036854775808 ≤ a - b) (h2 : a - b < 9223372036854775808) : (x - y).toInt = a - b := by
  rw [int64_sub (by rw [hx, hy]; exact h1) (by rw [hx, hy]; exact h2), hx, hy]
theorem lneg_of {x : Int64} {a : Int} (hx : x.toInt = a) (h1 : -9223372036854775808 < a) : (-x).toInt = -a := by
  rw [int64_neg (by rw [hx]; exact h1), hx]
theorem i2l_of {x : Int32} {a : Int} (hx : x.toInt = a) : x.toInt64.toInt = a := by rw [Int32.toInt_toInt64, hx]
theorem fin_of_le {x V : UInt64} (hn : val64 x ≠ .nan) (hV : DFin V) (h : (zv x).natAbs ≤ (zv V).natAbs) : DFin x := by
  cases hx : val64 x with
  | nan => exact absurd hx hn
  | fin s c q => exact ⟨s, c, q, hx⟩
  | inf s =>
    exfalso
    have h1 := hV.zval_lt
    rw [zv_abs, zv_abs, hx] at h
    exact absurd (Nat.lt_of_le_of_lt h h1) (Nat.lt_irrefl _)
/-- a bound on the worth bounds the bits -/
theorem mag_of {x : UInt64} {n : Nat} (hx : DFin x) (h : (zv x).natAbs ≤ 2 ^ n * one64) : Mag64 (n + 1024) x := by
  have z := zmag_bits hx.ne_nan
  rw [zv_abs, z] at h
  have hs : unitsOf b64 ((n + 1024) * b64.tails) = b64.tails * 2 ^ (n + 1024 - 1) := unitsOf_start (by omega)
  have ho : 2 ^ n * one64 < b64.tails * 2 ^ (n + 1024 - 1) := by
    rw [tails_b64, ← pow_qmin64, ← Nat.pow_add, ← Nat.pow_add, qmin_b64]
    exact Nat.pow_lt_pow_right (by decide) (by omega)
  have hl : unitsOf b64 (x.toNat % 2 ^ 63) < unitsOf b64 ((n + 1024) * b64.tails) := by rw [hs]; exact Nat.lt_of_le_of_lt h ho
  have hb := unitsOf_lt_iff.mp hl
  rw [tails_b64] at hb
  unfold Mag64
  exact hb
theorem Ra.mag {i : Int} {D n : Nat} {x : UInt64} (h : Ra i D x) (hD : 0 < D) (hi : i.natAbs ≤ 2 ^ n * D) : Mag64 (n + 1024) x := by
  refine mag_of h.1 (Nat.le_of_mul_le_mul_right (c := D) ?_ hD)
  have e := congrArg Int.natAbs h.2
  rw [Int.natAbs_mul, Int.natAbs_mul, Int.natAbs_natCast, Int.natAbs_natCast] at e
  rw [e]
  exact al_mag hi
theorem big_of {x : UInt64} (hx : DFin x) (h : one64 ≤ (zv x).natAbs) : Jvm.RoadKit.Big64 1023 x := by
  have z := zmag_bits hx.ne_nan
  rw [zv_abs, z] at h
  have hs : unitsOf b64 (1023 * b64.tails) = b64.tails * 2 ^ (1023 - 1) := unitsOf_start (by decide)
  have ho : b64.tails * 2 ^ (1023 - 1) = one64 := by rw [tails_b64, ← pow_qmin64, ← Nat.pow_add, qmin_b64]; rfl
  have hl : unitsOf b64 (1023 * b64.tails) ≤ unitsOf b64 (x.toNat % 2 ^ 63) := by rw [hs, ho]; exact h
  have hb := unitsOf_le_iff.mp hl
  rw [tails_b64] at hb
  have hf := (fin_bits x).mp hx
  exact ⟨hb, by omega⟩
theorem Ra.big {i : Int} {x : UInt64} (h : Ra i 1 x) (hi : i ≠ 0) : Jvm.RoadKit.Big64 1023 x := by
  refine big_of h.1 ?_
  have e := congrArg Int.natAbs h.2
  rw [Int.natAbs_mul, Int.natAbs_mul, Int.natAbs_natCast, Int.natAbs_natCast, Nat.mul_one] at e
  rw [e]
  exact Nat.le_mul_of_pos_left _ (Int.natAbs_pos.mpr hi)
theorem ra_zero : Ra 0 1 (0 : UInt64) := ⟨⟨_, _, _, val64_zero⟩, by rw [show zv 0 = 0 from zval64_zero, Int.zero_mul, Int.zero_mul]⟩
theorem ra_one : Ra 1 1 (4607182418800017408 : UInt64) := Ra.lit (s := false) (c := 4503599627370496) (q := -52) (k := 0) (n := 52) (by decide +kernel) rfl (by decide) (by decide) (by decide)
theorem ra_two : Ra 2 1 (4611686018427387904 : UInt64) := Ra.lit (s := false) (c := 4503599627370496) (q := -51) (k := 0) (n := 51) (by decide +kernel) rfl (by decide) (by decide) (by decide)
end Jvm.OwnFP
namespace Jvm.Pilot.@@N@@
open Jvm Jvm.ClassFile Sem Op Lib Jvm.Free Jvm.Stand Jvm.LawKit Jvm.RoadKit Bundle Jvm.Pilot.@@N@@.Jvm.D
theorem d3_0 : decode jdk_31_method_11_code 0 = .ok (.aload_n 0, 1) := by decide +kernel
theorem d3_1 : decode jdk_31_method_11_code 1 = .ok (.ifnonnull 12, 3) := by decide +kernel
theorem d3_13 : decode jdk_31_method_11_code 13 = .ok (.aload_n 0, 1) := by decide +kernel
theorem d3_14 : decode jdk_31_method_11_code 14 = .ok (.areturn, 1) := by decide +kernel
theorem pn_java_util_Objects : plainName "java/util/Objects" = true := by first | (simp [plainName, overriddenIn]; done) | decide +kernel
theorem ef_3_RR (m : MethodId) (x0 : Addr) (x1 : Addr) : entryFrame m #[(.ref x0), (.ref x1)] 2 = mkF m 0 #[.val (.ref x0), .val (.ref x1)] [] := by first | (simp [entryFrame, mkF, argsToLocals, Value.category]; done) | rfl
def Q_rn (Z : State) (q0 : Addr) (q1 : Addr) (h0 : Heap) (n0 : Nat) (v : Option Value) (h : Heap) (L : List Loc) : Prop := v = some (.ref q0) ∧ Fr n0 L ∧ h = h0
set_option maxRecDepth 65536 in
set_option maxHeartbeats 40000000 in
theorem rn (l : Launch) (Z : State) (a0 : Array Value) (hw : ∀ d ∈ tables_1, d.before a0 Z = true) (ws : List Jvm.Cond) (q0 : Addr) (q1 : Addr) (h0 : Heap) (n0 : Nat) (Z0 : n0 ≤ h0.size) :
    MetFree l (⟨"java/util/Objects", "requireNonNull", "(Ljava/lang/Object;Ljava/lang/String;)Ljava/lang/Object;"⟩ : MethodName) (head1 (Jvm.Cond.code (⟨"java/util/Objects", "requireNonNull", "(Ljava/lang/Object;Ljava/lang/String;)Ljava/lang/Object;"⟩ : MethodName) jdk_31_method_11_code 2 (some (.object "java/lang/Object")) :: ws) ({ frames := 0, cells := 0, slots := 0, locals := 0 } : Room)) (fun a U => a = #[(.ref q0), (.ref q1)] ∧ Z.Warmed39 U.vm ∧ U.heap = h0) (fun _ _ _ _ _ => True) (fun _ U o U' => ∃ v L, o = .returned v ∧ Q_rn Z q0 q1 h0 n0 v U'.heap L ∧ FrameEnd U o U' L ({ frames := 0, cells := 0, slots := 0, locals := 0 } : Room).cells ({ frames := 0, cells := 0, slots := 0, locals := 0 } : Room).slots) := by
  refine MetFree.of_bodySF (plainFor_of_name pn_java_util_Objects) hisR ?_
  intro p e s m args below meth c s₁ Bd hml0 hP hK
  obtain ⟨rfl, hZ, hh⟩ := hP
  have hx := Bd.exec
  have hby := Bd.bytes
  have hml : c.maxLocals = 2 := hml0
  have hown : s.vm.findClass "java/util/Objects" = some m.cls := findClass_of_methodNamed Bd.named
  have hnm := (name_of_methodNamed Bd.named Bd.method).1
  have X0 : Stand p l e ({ frames := 0, cells := 0, slots := 0, locals := 0 } : Room) s m #[(.ref q0), (.ref q1)] below meth c s₁ [] 0 0 := Stand.of_body Bd
  have e0 : s₁.heap = h0 := by rw [← hh, Bd.state]; rfl
  have N0 := Fr.nil n0
  have pre0 : ∀ t, Steps p.tables e below (s₁.setTop (mkF m 0 #[.val (.ref q0), .val (.ref q1)] [])) t → Steps p.tables e below (s₁.setTop (entryFrame m #[(.ref q0), (.ref q1)] 2)) t := fun t k => castTop (ef_3_RR m q0 q1) k
  obtain ⟨fs, hr, hrun, hended, hW, hsame⟩ := X0.leave (v := some (.ref q0)) (fun h => by rw [Bd.returns] at h; cases h)
  refine ⟨_, _, pre0 _ ?_, hrun, hended, _, _, rfl, ?_, ⟨_, rfl⟩, hW, hsame.mono (by decide) (by decide)⟩
  · show Steps p.tables e below (s₁.setTop (mkF m 0 #[.val (.ref q0), .val (.ref q1)] [])) _
    refine XS.aloadN X0.here hx rfl (hb hby d3_0) rfl rfl ?_
    refine XS.ifnonnullYes X0.here hx rfl (pc0 := 1) (pc' := 13) rfl (hb hby d3_1) rfl (by decide) (by decide) ?_
    refine XS.aloadN X0.here hx rfl (hb hby d3_13) rfl rfl ?_
    exact retOut X0 hx Bd.returns rfl (Or.inr (Or.inr (Or.inr (Or.inr ⟨rfl, rfl, rfl⟩)))) (hb hby d3_14) hr
  · show Q_rn Z q0 q1 h0 n0 _ s₁.heap _
    rw [e0]
    exact ⟨rfl, N0, rfl⟩
theorem d5_0 : decode prog_30_method_2_code 0 = .ok (.dload_n 0, 1) := by decide +kernel
theorem d5_1 : decode prog_30_method_2_code 1 = .ok (.dconst 0, 1) := by decide +kernel
theorem d5_2 : decode prog_30_method_2_code 2 = .ok (.dcmp .l, 1) := by decide +kernel
theorem d5_3 : decode prog_30_method_2_code 3 = .ok (.ifCond .lt 11, 3) := by decide +kernel
theorem d5_6 : decode prog_30_method_2_code 6 = .ok (.dload_n 0, 1) := by decide +kernel
theorem d5_7 : decode prog_30_method_2_code 7 = .ok (.ldc2_w 30, 3) := by decide +kernel
theorem d5_10 : decode prog_30_method_2_code 10 = .ok (.dcmp .g, 1) := by decide +kernel
theorem d5_11 : decode prog_30_method_2_code 11 = .ok (.ifCond .lt 17, 3) := by decide +kernel
theorem d5_28 : decode prog_30_method_2_code 28 = .ok (.dload_n 0, 1) := by decide +kernel
theorem d5_29 : decode prog_30_method_2_code 29 = .ok (.dreturn, 1) := by decide +kernel
theorem pn_com_example_hedge_hedge_RewardStructure : plainName "com/example/hedge/hedge/RewardStructure" = true := by first | (simp [plainName, overriddenIn]; done) | decide +kernel
theorem ef_5_l_0___UInt64_ (m : MethodId)  : entryFrame m #[(.double (0 : UInt64))] 2 = mkF m 0 #[.val (.double (0 : UInt64)), .second] [] := by first | (simp [entryFrame, mkF, argsToLocals, Value.category]; done) | rfl
def Q_cr (Z : State)  (h0 : Heap) (n0 : Nat) (v : Option Value) (h : Heap) (L : List Loc) : Prop := v = some (.double (0 : UInt64)) ∧ Fr n0 L ∧ h = h0
set_option maxRecDepth 65536 in
set_option maxHeartbeats 40000000 in
theorem cr (l : Launch) (Z : State) (a0 : Array Value) (hw : ∀ d ∈ tables_1, d.before a0 Z = true) (ws : List Jvm.Cond)  (h0 : Heap) (n0 : Nat) (Z0 : n0 ≤ h0.size) :
    MetFree l (⟨"com/example/hedge/hedge/RewardStructure", "checkReward", "(D)D"⟩ : MethodName) (head1 (Jvm.Cond.code (⟨"com/example/hedge/hedge/RewardStructure", "checkReward", "(D)D"⟩ : MethodName) prog_30_method_2_code 2 (some .double) :: ws) ({ frames := 0, cells := 0, slots := 0, locals := 0 } : Room)) (fun a U => a = #[(.double (0 : UInt64))] ∧ Z.Warmed39 U.vm ∧ U.heap = h0) (fun _ _ _ _ _ => True) (fun _ U o U' => ∃ v L, o = .returned v ∧ Q_cr Z  h0 n0 v U'.heap L ∧ FrameEnd U o U' L ({ frames := 0, cells := 0, slots := 0, locals := 0 } : Room).cells ({ frames := 0, cells := 0, slots := 0, locals := 0 } : Room).slots) := by
  refine MetFree.of_bodySF (plainFor_of_name pn_com_example_hedge_hedge_RewardStructure) hisR ?_
  intro p e s m args below meth c s₁ Bd hml0 hP hK
  obtain ⟨rfl, hZ, hh⟩ := hP
  have hx := Bd.exec
  have hby := Bd.bytes
  have hml : c.maxLocals = 2 := hml0
  have hown : s.vm.findClass "com/example/hedge/hedge/RewardStructure" = some m.cls := findClass_of_methodNamed Bd.named
  have hnm := (name_of_methodNamed Bd.named Bd.method).1
  have X0 : Stand p l e ({ frames := 0, cells := 0, slots := 0, locals := 0 } : Room) s m #[(.double (0 : UInt64))] below meth c s₁ [] 0 0 := Stand.of_body Bd
  have e0 : s₁.heap = h0 := by rw [← hh, Bd.state]; rfl
  have N0 := Fr.nil n0
  have pre0 : ∀ t, Steps p.tables e below (s₁.setTop (mkF m 0 #[.val (.double (0 : UInt64)), .second] [])) t → Steps p.tables e below (s₁.setTop (entryFrame m #[(.double (0 : UInt64))] 2)) t := fun t k => castTop (ef_5_l_0___UInt64_ m ) k
  obtain ⟨fs, hr, hrun, hended, hW, hsame⟩ := X0.leave (v := some (.double (0 : UInt64))) (fun h => by rw [Bd.returns] at h; cases h)
  refine ⟨_, _, pre0 _ ?_, hrun, hended, _, _, rfl, ?_, ⟨_, rfl⟩, hW, hsame.mono (by decide) (by decide)⟩
  · show Steps p.tables e below (s₁.setTop (mkF m 0 #[.val (.double (0 : UInt64)), .second] [])) _
    refine XS.dloadN X0.here hx rfl (hb hby d5_0) rfl ?_
    refine XS.dconst0 X0.here hx rfl (hb hby d5_1) (v := (0 : UInt64)) rfl ?_
    refine XS.dcmpS X0.here hx rfl (hb hby d5_2) rfl (v := (0 : Int32)) (by decide +kernel) ?_
    refine XS.ifNo X0.here hx rfl (hb hby d5_3) rfl ((if0 _ _).trans (flt (by decide : ¬ ((0 : Int32) < (0 : Int32)))).1) ?_
    refine XS.dloadN X0.here hx rfl (hb hby d5_6) rfl ?_
    show Steps p.tables e below (s₁.setTop (mkF m 7 #[.val (.double (0 : UInt64)), .second] [(.double (0 : UInt64))])) _
    refine X0.ldc2DoubleC hx hown (mvT hZ (hw _ (List.mem_of_getElem? (i := 36) rfl))) (g := (mkF m 7 #[.val (.double (0 : UInt64)), .second] [(.double (0 : UInt64))])) rfl (hb hby d5_7) _ ?_
    show Steps p.tables e below (s₁.setTop (mkF m 10 #[.val (.double (0 : UInt64)), .second] [(.double (9218868437227405312 : UInt64)), (.double (0 : UInt64))])) _
    refine XS.dcmpS X0.here hx rfl (hb hby d5_10) rfl (v := (-1 : Int32)) (by decide +kernel) ?_
    refine XS.ifYes X0.here hx rfl (pc0 := 11) (pc' := 28) rfl (hb hby d5_11) rfl ((if0 _ _).trans (tlt (by decide : (-1 : Int32) < (0 : Int32))).1) (by decide) (by decide) ?_
    refine XS.dloadN X0.here hx rfl (hb hby d5_28) rfl ?_
    exact retOut X0 hx Bd.returns rfl (Or.inr (Or.inr (Or.inl ⟨rfl, rfl, _, rfl⟩))) (hb hby d5_29) hr
  · show Q_cr Z  h0 n0 _ s₁.heap _
    rw [e0]
    exact ⟨rfl, N0, rfl⟩
theorem d1_0 : decode prog_30_method_1_code 0 = .ok (.aload_n 0, 1) := by decide +kernel
theorem d1_1 : decode prog_30_method_1_code 1 = .ok (.invokespecial 1, 3) := by decide +kernel
theorem d1_4 : decode prog_30_method_1_code 4 = .ok (.aload_n 0, 1) := by decide +kernel
theorem d1_5 : decode prog_30_method_1_code 5 = .ok (.aload_n 1, 1) := by decide +kernel
theorem d1_6 : decode prog_30_method_1_code 6 = .ok (.ldc 7, 2) := by decide +kernel
theorem own_satoms {Z : State} {a0 : Array Value} (hw : ∀ d ∈ tables_1, d.before a0 Z = true) : ∀ c ∈ Bundle.stringAtoms, c.before a0 Z = true := fun c hc =>
  hw c (by simpa using (List.all_eq_true.mp (by decide +kernel : (Bundle.stringAtoms.all fun c => (tables_1).contains c) = true)) c hc)
theorem d1_8 : decode prog_30_method_1_code 8 = .ok (.invokestatic 9, 3) := by decide +kernel
theorem pd_0 : parseMethodDescriptor "(Ljava/lang/Object;Ljava/lang/String;)Ljava/lang/Object;" = some ⟨[(.object "java/lang/Object"), (.object "java/lang/String")], some (.object "java/lang/Object")⟩ := by decide +kernel
theorem d1_11 : decode prog_30_method_1_code 11 = .ok (.checkcast 15, 3) := by decide +kernel
theorem d1_14 : decode prog_30_method_1_code 14 = .ok (.putfield 17, 3) := by decide +kernel
theorem so_RewardStructure_transition_state {Z : State} {a0 : Array Value} (hw : ∀ d ∈ tables_1, d.before a0 Z = true) : Jvm.RoadKit.slotOf Z "com/example/hedge/hedge/RewardStructure" "transition" "[D" ≠ Jvm.RoadKit.slotOf Z "com/example/hedge/hedge/RewardStructure" "state" "[D" := slot_ne (Or.inr (hw _ (List.mem_of_getElem? (i := 27) rfl))) (Or.inr (hw _ (List.mem_of_getElem? (i := 25) rfl))) (by decide) (t := (.array .double)) (t' := (.array .double)) (by decide) (by decide)
theorem d1_17 : decode prog_30_method_1_code 17 = .ok (.aload_n 0, 1) := by decide +kernel
theorem d1_18 : decode prog_30_method_1_code 18 = .ok (.aload_n 2, 1) := by decide +kernel
theorem d1_19 : decode prog_30_method_1_code 19 = .ok (.putfield 21, 3) := by decide +kernel
theorem so_RewardStructure_state_transition {Z : State} {a0 : Array Value} (hw : ∀ d ∈ tables_1, d.before a0 Z = true) : Jvm.RoadKit.slotOf Z "com/example/hedge/hedge/RewardStructure" "state" "[D" ≠ Jvm.RoadKit.slotOf Z "com/example/hedge/hedge/RewardStructure" "transition" "[D" := slot_ne (Or.inr (hw _ (List.mem_of_getElem? (i := 25) rfl))) (Or.inr (hw _ (List.mem_of_getElem? (i := 27) rfl))) (by decide) (t := (.array .double)) (t' := (.array .double)) (by decide) (by decide)
theorem d1_22 : decode prog_30_method_1_code 22 = .ok (.aload_n 1, 1) := by decide +kernel
theorem d1_23 : decode prog_30_method_1_code 23 = .ok (.astore_n 3, 1) := by decide +kernel
theorem d1_24 : decode prog_30_method_1_code 24 = .ok (.aload_n 3, 1) := by decide +kernel
theorem d1_25 : decode prog_30_method_1_code 25 = .ok (.arraylength, 1) := by decide +kernel
theorem d1_26 : decode prog_30_method_1_code 26 = .ok (.istore 4, 2) := by decide +kernel
theorem d1_28 : decode prog_30_method_1_code 28 = .ok (.iconst 0, 1) := by decide +kernel
theorem d1_29 : decode prog_30_method_1_code 29 = .ok (.istore 5, 2) := by decide +kernel
theorem d1_31 : decode prog_30_method_1_code 31 = .ok (.iload 5, 2) := by decide +kernel
theorem d1_33 : decode prog_30_method_1_code 33 = .ok (.iload 4, 2) := by decide +kernel
theorem d1_35 : decode prog_30_method_1_code 35 = .ok (.if_icmp .ge 21, 3) := by decide +kernel
theorem d1_56 : decode prog_30_method_1_code 56 = .ok (.aload_n 2, 1) := by decide +kernel
theorem d1_57 : decode prog_30_method_1_code 57 = .ok (.ifnull 37, 3) := by decide +kernel
theorem d1_94 : decode prog_30_method_1_code 94 = .ok (.return_, 1) := by decide +kernel
theorem ef_1_RRn (m : MethodId) (x0 : Addr) (x1 : Addr) : entryFrame m #[(.ref x0), (.ref x1), .null] 8 = mkF m 0 #[.val (.ref x0), .val (.ref x1), .val .null, .unset, .unset, .unset, .unset, .unset] [] := by first | (simp [entryFrame, mkF, argsToLocals, Value.category]; done) | rfl
def Q_ini0n (Z : State) (t0 : Addr) (s0 : Addr) (nq : Int32) (ka : ClassId) (h0 : Heap) (n0 : Nat) (v : Option Value) (h : Heap) (L : List Loc) : Prop := v = none ∧ Fr n0 L ∧ Keep h0 h [t0] ∧ Exa Z h t0 "com/example/hedge/hedge/RewardStructure" ∧ Fld Z h t0 "com/example/hedge/hedge/RewardStructure" "state" "[D" (.ref s0) ∧ Fld Z h t0 "com/example/hedge/hedge/RewardStructure" "transition" "[D" .null
set_option maxRecDepth 65536 in
set_option maxHeartbeats 40000000 in
theorem ini0n (l : Launch) (Z : State) (a0 : Array Value) (hw : ∀ d ∈ tables_1, d.before a0 Z = true) (ws : List Jvm.Cond) (t0 : Addr) (s0 : Addr) (nq : Int32) (ka : ClassId) (h0 : Heap) (n0 : Nat) (Z0 : n0 ≤ h0.size) (E_t0 : Exa Z h0 t0 "com/example/hedge/hedge/RewardStructure") (g_t0 : n0 ≤ t0) (F_state_t0 : Fld Z h0 t0 "com/example/hedge/hedge/RewardStructure" "state" "[D" .null) (F_transition_t0 : Fld Z h0 t0 "com/example/hedge/hedge/RewardStructure" "transition" "[D" .null) (E_s0 : Exa Z h0 s0 "[D") (V_s0 : Arv Z h0 s0 ka .double nq [] (.double (0 : UInt64))) (ne_t0_s0 : t0 ≠ s0) (hc35 : ¬ ((0 : Int32) < nq)) :
    MetFree l (⟨"com/example/hedge/hedge/RewardStructure", "<init>", "([D[D)V"⟩ : MethodName) (head1 (Jvm.Cond.code (⟨"com/example/hedge/hedge/RewardStructure", "<init>", "([D[D)V"⟩ : MethodName) prog_30_method_1_code 8 none :: ws) ({ frames := 1, cells := 2, slots := 24, locals := 14 } : Room)) (fun a U => a = #[(.ref t0), (.ref s0), .null] ∧ Z.Warmed39 U.vm ∧ U.heap = h0) (fun _ _ _ _ _ => True) (fun _ U o U' => ∃ v L, o = .returned v ∧ Q_ini0n Z t0 s0 nq ka h0 n0 v U'.heap L ∧ ReturnedEndW U o U' L ({ frames := 1, cells := 2, slots := 24, locals := 14 } : Room).cells ({ frames := 1, cells := 2, slots := 24, locals := 14 } : Room).slots) := by
  refine MetFree.of_bodySF (plainFor_of_name pn_com_example_hedge_hedge_RewardStructure) hisR ?_
  intro p e s m args below meth c s₁ Bd hml0 hP hK
  obtain ⟨rfl, hZ, hh⟩ := hP
  have hx := Bd.exec
  have hby := Bd.bytes
  have hml : c.maxLocals = 8 := hml0
  have hown : s.vm.findClass "com/example/hedge/hedge/RewardStructure" = some m.cls := findClass_of_methodNamed Bd.named
  have hnm := (name_of_methodNamed Bd.named Bd.method).1
  have X0 : Stand p l e ({ frames := 1, cells := 2, slots := 24, locals := 14 } : Room) s m #[(.ref t0), (.ref s0), .null] below meth c s₁ [] 0 0 := Stand.of_body Bd
  have e0 : s₁.heap = h0 := by rw [← hh, Bd.state]; rfl
  have N0 := Fr.nil n0
  have pre0 : ∀ t, Steps p.tables e below (s₁.setTop (mkF m 0 #[.val (.ref t0), .val (.ref s0), .val .null, .unset, .unset, .unset, .unset, .unset] [])) t → Steps p.tables e below (s₁.setTop (entryFrame m #[(.ref t0), (.ref s0), .null] 8)) t := fun t k => castTop (ef_1_RRn m t0 s0) k
  obtain ⟨vm0, k00, X0, hS0, hk0, hZ0, hown0⟩ := own_W0 X0 e0 hZ hown
  obtain ⟨T1, X1, e1, st1⟩ := initO X0 hx hZ0 hown0 (hw _ (List.mem_of_getElem? (i := 7) rfl)) (hw _ (List.mem_of_getElem? (i := 8) rfl)) (hw _ (List.mem_of_getElem? (i := 9) rfl)) e0 (g := (mkF m 1 #[.val (.ref t0), .val (.ref s0), .val .null, .unset, .unset, .unset, .unset, .unset] [(.ref t0)])) rfl (by rw [hml]; rfl) rfl (hb hby d1_1) (by decide) (W := 0) (by show 2 * 0 + _ ≤ _; exact Nat.le_of_eq rfl) (by decide)
  obtain ⟨a2, T2, h2, kq2, X2, e2, E2, hS2, hkq2, hZ2, hown2, st2⟩ := ldcS X1 hx hZ0 hown0 (hw _ (List.mem_of_getElem? (i := 10) rfl)) (own_satoms hw) e1 hS0 hk0 (g := (mkF m 6 #[.val (.ref t0), .val (.ref s0), .val .null, .unset, .unset, .unset, .unset, .unset] [(.ref s0), (.ref t0)])) rfl (hb hby d1_6) (n := 20) (by decide) (by decide) (by decide) (by decide)
  have f3 := E_t0.ext E2
  have f4 := F_state_t0.ext E2
  have f5 := F_transition_t0.ext E2
  have f6 := E_s0.ext E2
  have f7 := V_s0.ext E2
  have K2 : Keep h0 h2 [t0] := (Keep.refl h0 [t0]).ext E2
  have Zs2 := Nat.le_trans Z0 E2.1
  have hk2 := Nat.le_trans hk0 E2.1
  obtain ⟨_, _, ⟨T8, L8, k8, n8⟩, -, X8, ⟨Lc8, hQ8, lq8, yq8, zq8⟩, st8⟩ := Jvm.LawKit.callS X2 hx (y := (⟨"java/util/Objects", "requireNonNull", "(Ljava/lang/Object;Ljava/lang/String;)Ljava/lang/Object;"⟩ : MethodName)) hown2 (mvT hZ2 (hw _ (List.mem_of_getElem? (i := 18) rfl))) (mvT hZ2 (hw _ (List.mem_of_getElem? (i := 19) rfl))) (mvT hZ2 (hw _ (List.mem_of_getElem? (i := 20) rfl))) (mvT hZ2 (hw _ (List.mem_of_getElem? (i := 21) rfl))) (by decide) (backOf (W := 1) (rn l Z a0 hw [] s0 a2 h2 n0 Zs2 ) hZ2 (hw _ (List.mem_of_getElem? (i := 21) rfl)) (hw _ (List.mem_of_getElem? (i := 20) rfl)) (by decide) (by decide)) (g := (mkF m 8 #[.val (.ref t0), .val (.ref s0), .val .null, .unset, .unset, .unset, .unset, .unset] [(.ref a2), (.ref s0), (.ref t0)])) rfl (by rw [hml]; rfl) (argsL := [(.ref s0), (.ref a2)]) (rest := [(.ref t0)]) (lenOf pd_0 rfl) rfl (by show 2 * 0 + _ ≤ _; exact Nat.le_of_eq rfl) (hb hby d1_8) (fun _ _ => ⟨rfl, e2, (by decide : 2 + 0 ≤ _), (by decide : 24 + 0 ≤ _)⟩)
  dsimp only [Pt.U, Pt.locs, Pt.cells, Pt.slots] at X8 lq8 yq8 zq8 st8 hQ8
  rw [lq8, yq8, zq8] at X8
  obtain ⟨rfl, N8q, eh8⟩ := hQ8
  have N8 := Fr.app N0 N8q
  have e8 : T8.heap = h2 := eh8
  obtain ⟨T9, X9, e9, st9⟩ := castY X8 hx hZ2 hown2 (hw _ (List.mem_of_getElem? (i := 22) rfl)) e8 (Ins.self f6) (g := (mkF m 11 #[.val (.ref t0), .val (.ref s0), .val .null, .unset, .unset, .unset, .unset, .unset] [(.ref s0), (.ref t0)])) rfl rfl (hb hby d1_11)
  obtain ⟨T10, h10, X10, e10, W10, st10⟩ := putF X9 hx hZ2 hown2 (host := "") (Or.inl (hw _ (List.mem_of_getElem? (i := 24) rfl))) Via.refl e9 f4 f3 (Or.inr ⟨(hw _ (List.mem_of_getElem? (i := 25) rfl)), rfl, hnm⟩) (hw _ (List.mem_of_getElem? (i := 2) rfl)) (ty := (.array .double)) (by decide) rfl rfl (g := (mkF m 14 #[.val (.ref t0), .val (.ref s0), .val .null, .unset, .unset, .unset, .unset, .unset] [(.ref s0), (.ref t0)])) rfl rfl (hb hby d1_14)
  have f11 := f3.wr W10
  have f12 := f5.other W10 (Or.inr (so_RewardStructure_transition_state hw))
  have f13 := f6.wr W10
  have f14 := f7.other W10 (Ne.symm ne_t0_s0)
  have K10 : Keep h0 h10 [t0] := K2.wr W10 (Or.inl (List.mem_of_getElem? (i := 0) rfl))
  have Zs10 := Nat.le_trans Zs2 (Keep.of_wr W10).1
  have hk10 := Nat.le_trans hkq2 (Keep.of_wr W10).1
  have N10 := Fr.snoc X10 N8 g_t0
  have f15 : Fld Z h10 t0 "com/example/hedge/hedge/RewardStructure" "state" "[D" (.ref s0) := f4.same W10
  obtain ⟨T16, h16, X16, e16, W16, st16⟩ := putF X10 hx hZ2 hown2 (host := "") (Or.inl (hw _ (List.mem_of_getElem? (i := 26) rfl))) Via.refl e10 f12 f11 (Or.inr ⟨(hw _ (List.mem_of_getElem? (i := 27) rfl)), rfl, hnm⟩) (hw _ (List.mem_of_getElem? (i := 2) rfl)) (ty := (.array .double)) (by decide) rfl rfl (g := (mkF m 19 #[.val (.ref t0), .val (.ref s0), .val .null, .unset, .unset, .unset, .unset, .unset] [.null, (.ref t0)])) rfl rfl (hb hby d1_19)
  have f17 := f11.wr W16
  have f18 := f15.other W16 (Or.inr (so_RewardStructure_state_transition hw))
  have f19 := f13.wr W16
  have f20 := f14.other W16 (Ne.symm ne_t0_s0)
  have K16 : Keep h0 h16 [t0] := K10.wr W16 (Or.inl (List.mem_of_getElem? (i := 0) rfl))
  have Zs16 := Nat.le_trans Zs10 (Keep.of_wr W16).1
  have hk16 := Nat.le_trans hk10 (Keep.of_wr W16).1
  have N16 := Fr.snoc X16 N10 g_t0
  have f21 : Fld Z h16 t0 "com/example/hedge/hedge/RewardStructure" "transition" "[D" .null := f12.same W16
  obtain ⟨cq22, Arq22, -, Sq22, Nq22, -, -⟩ := id f20
  obtain ⟨fs, hr, hrun, hended, hRW⟩ := X16.leaveW hS2 (by rw [e16]; exact hk16) (v := none) (fun _ => rfl)
  refine ⟨_, _, pre0 _ ?_, hrun, hended, _, _, rfl, ?_, ⟨_, rfl⟩, hRW.2.1, hRW.2.2.1, hRW.2.2.2.mono (by decide) (by decide)⟩
  · show Steps p.tables e below (s₁.setTop (mkF m 0 #[.val (.ref t0), .val (.ref s0), .val .null, .unset, .unset, .unset, .unset, .unset] [])) _
    refine XS.aloadN X0.here hx rfl (hb hby d1_0) rfl rfl ?_
    refine st1 _ ?_
    show Steps p.tables e below (T1.setTop (mkF m 4 #[.val (.ref t0), .val (.ref s0), .val .null, .unset, .unset, .unset, .unset, .unset] [])) _
    refine XS.aloadN X1.here hx rfl (hb hby d1_4) rfl rfl ?_
    refine XS.aloadN X1.here hx rfl (hb hby d1_5) rfl rfl ?_
    refine st2 _ ?_
    show Steps p.tables e below (T2.setTop (mkF m 8 #[.val (.ref t0), .val (.ref s0), .val .null, .unset, .unset, .unset, .unset, .unset] [(.ref a2), (.ref s0), (.ref t0)])) _
    refine st8 _ ?_
    show Steps p.tables e below (T8.setTop (mkF m 11 #[.val (.ref t0), .val (.ref s0), .val .null, .unset, .unset, .unset, .unset, .unset] [(.ref s0), (.ref t0)])) _
    refine st9 _ ?_
    show Steps p.tables e below (T9.setTop (mkF m 14 #[.val (.ref t0), .val (.ref s0), .val .null, .unset, .unset, .unset, .unset, .unset] [(.ref s0), (.ref t0)])) _
    refine st10 _ ?_
    show Steps p.tables e below (T10.setTop (mkF m 17 #[.val (.ref t0), .val (.ref s0), .val .null, .unset, .unset, .unset, .unset, .unset] [])) _
    refine XS.aloadN X10.here hx rfl (hb hby d1_17) rfl rfl ?_
    refine XS.aloadN X10.here hx rfl (hb hby d1_18) rfl rfl ?_
    refine st16 _ ?_
    show Steps p.tables e below (T16.setTop (mkF m 22 #[.val (.ref t0), .val (.ref s0), .val .null, .unset, .unset, .unset, .unset, .unset] [])) _
    refine XS.aloadN X16.here hx rfl (hb hby d1_22) rfl rfl ?_
    refine XS.astoreN X16.here hx rfl (hb hby d1_23) rfl rfl (l' := #[.val (.ref t0), .val (.ref s0), .val .null, .val (.ref s0), .unset, .unset, .unset, .unset]) rfl ?_
    refine XS.aloadN X16.here hx rfl (hb hby d1_24) rfl rfl ?_
    refine X16.arraylength hx (by rw [e16]; exact Arq22.1) (State.isArrayOf_alike hZ2.alike Arq22.2.1) (g := (mkF m 25 #[.val (.ref t0), .val (.ref s0), .val .null, .val (.ref s0), .unset, .unset, .unset, .unset] [(.ref s0)])) rfl rfl (hb hby d1_25) _ ?_
    rw [len_of Sq22 Nq22]
    show Steps p.tables e below (T16.setTop (mkF m 26 #[.val (.ref t0), .val (.ref s0), .val .null, .val (.ref s0), .unset, .unset, .unset, .unset] [(.int nq)])) _
    refine XS.istore X16.here hx rfl (hb hby d1_26) rfl (l' := #[.val (.ref t0), .val (.ref s0), .val .null, .val (.ref s0), .val (.int nq), .unset, .unset, .unset]) rfl ?_
    refine XS.iconst X16.here hx rfl (hb hby d1_28) ?_
    show Steps p.tables e below (T16.setTop (mkF m 29 #[.val (.ref t0), .val (.ref s0), .val .null, .val (.ref s0), .val (.int nq), .unset, .unset, .unset] [(.int (0 : Int32))])) _
    refine XS.istore X16.here hx rfl (hb hby d1_29) rfl (l' := #[.val (.ref t0), .val (.ref s0), .val .null, .val (.ref s0), .val (.int nq), .val (.int (0 : Int32)), .unset, .unset]) rfl ?_
    refine XS.iload X16.here hx rfl (hb hby d1_31) rfl ?_
    refine XS.iload X16.here hx rfl (hb hby d1_33) rfl ?_
    refine XS.icmpYes X16.here hx rfl (pc0 := 35) (pc' := 56) rfl (hb hby d1_35) rfl (flt hc35).2.1 (by decide) (by decide) ?_
    refine XS.aloadN X16.here hx rfl (hb hby d1_56) rfl rfl ?_
    refine XS.ifnullYes X16.here hx rfl (pc0 := 57) (pc' := 94) rfl (hb hby d1_57) rfl (by decide) (by decide) ?_
    show Steps p.tables e below (T16.setTop (mkF m 94 #[.val (.ref t0), .val (.ref s0), .val .null, .val (.ref s0), .val (.int nq), .val (.int (0 : Int32)), .unset, .unset] [])) _
    exact X16.returnOut hx Bd.returns (hb hby d1_94) hr
  · show Q_ini0n Z t0 s0 nq ka h0 n0 _ T16.heap _
    rw [e16]
    exact ⟨rfl, N16, K16, f17, f18, f21⟩
theorem d1_38 : decode prog_30_method_1_code 38 = .ok (.aload_n 3, 1) := by decide +kernel
theorem d1_39 : decode prog_30_method_1_code 39 = .ok (.iload 5, 2) := by decide +kernel
theorem d1_41 : decode prog_30_method_1_code 41 = .ok (.daload, 1) := by decide +kernel
theorem d1_42 : decode prog_30_method_1_code 42 = .ok (.dstore 6, 2) := by decide +kernel
theorem d1_44 : decode prog_30_method_1_code 44 = .ok (.dload 6, 2) := by decide +kernel
theorem d1_46 : decode prog_30_method_1_code 46 = .ok (.invokestatic 24, 3) := by decide +kernel
theorem pd_1 : parseMethodDescriptor "(D)D" = some ⟨[.double], some .double⟩ := by decide +kernel
theorem d1_49 : decode prog_30_method_1_code 49 = .ok (.pop2, 1) := by decide +kernel
theorem d1_50 : decode prog_30_method_1_code 50 = .ok (.iinc 5 1, 3) := by decide +kernel
theorem d1_53 : decode prog_30_method_1_code 53 = .ok (.goto (-22), 3) := by decide +kernel
def Q_ini1n (Z : State) (t0 : Addr) (s0 : Addr) (nq : Int32) (ka : ClassId) (h0 : Heap) (n0 : Nat) (v : Option Value) (h : Heap) (L : List Loc) : Prop := v = none ∧ Fr n0 L ∧ Keep h0 h [t0] ∧ Exa Z h t0 "com/example/hedge/hedge/RewardStructure" ∧ Fld Z h t0 "com/example/hedge/hedge/RewardStructure" "state" "[D" (.ref s0) ∧ Fld Z h t0 "com/example/hedge/hedge/RewardStructure" "transition" "[D" .null
set_option maxRecDepth 65536 in
set_option maxHeartbeats 40000000 in
theorem ini1n (l : Launch) (Z : State) (a0 : Array Value) (hw : ∀ d ∈ tables_1, d.before a0 Z = true) (ws : List Jvm.Cond) (t0 : Addr) (s0 : Addr) (nq : Int32) (ka : ClassId) (h0 : Heap) (n0 : Nat) (Z0 : n0 ≤ h0.size) (E_t0 : Exa Z h0 t0 "com/example/hedge/hedge/RewardStructure") (g_t0 : n0 ≤ t0) (F_state_t0 : Fld Z h0 t0 "com/example/hedge/hedge/RewardStructure" "state" "[D" .null) (F_transition_t0 : Fld Z h0 t0 "com/example/hedge/hedge/RewardStructure" "transition" "[D" .null) (E_s0 : Exa Z h0 s0 "[D") (V_s0 : Arv Z h0 s0 ka .double nq [] (.double (0 : UInt64))) (ne_t0_s0 : t0 ≠ s0) (hc35 : (0 : Int32) < nq) (hin41 : ¬ (0 : Int32) < 0 ∧ (0 : Int32) < nq) (hc35_1 : ¬ ((1 : Int32) < nq)) :
    MetFree l (⟨"com/example/hedge/hedge/RewardStructure", "<init>", "([D[D)V"⟩ : MethodName) (head1 (Jvm.Cond.code (⟨"com/example/hedge/hedge/RewardStructure", "<init>", "([D[D)V"⟩ : MethodName) prog_30_method_1_code 8 none :: ws) ({ frames := 1, cells := 2, slots := 24, locals := 14 } : Room)) (fun a U => a = #[(.ref t0), (.ref s0), .null] ∧ Z.Warmed39 U.vm ∧ U.heap = h0) (fun _ _ _ _ _ => True) (fun _ U o U' => ∃ v L, o = .returned v ∧ Q_ini1n Z t0 s0 nq ka h0 n0 v U'.heap L ∧ ReturnedEndW U o U' L ({ frames := 1, cells := 2, slots := 24, locals := 14 } : Room).cells ({ frames := 1, cells := 2, slots := 24, locals := 14 } : Room).slots) := by
  refine MetFree.of_bodySF (plainFor_of_name pn_com_example_hedge_hedge_RewardStructure) hisR ?_
  intro p e s m args below meth c s₁ Bd hml0 hP hK
  obtain ⟨rfl, hZ, hh⟩ := hP
  have hx := Bd.exec
  have hby := Bd.bytes
  have hml : c.maxLocals = 8 := hml0
  have hown : s.vm.findClass "com/example/hedge/hedge/RewardStructure" = some m.cls := findClass_of_methodNamed Bd.named
  have hnm := (name_of_methodNamed Bd.named Bd.method).1
  have X0 : Stand p l e ({ frames := 1, cells := 2, slots := 24, locals := 14 } : Room) s m #[(.ref t0), (.ref s0), .null] below meth c s₁ [] 0 0 := Stand.of_body Bd
  have e0 : s₁.heap = h0 := by rw [← hh, Bd.state]; rfl
  have N0 := Fr.nil n0
  have pre0 : ∀ t, Steps p.tables e below (s₁.setTop (mkF m 0 #[.val (.ref t0), .val (.ref s0), .val .null, .unset, .unset, .unset, .unset, .unset] [])) t → Steps p.tables e below (s₁.setTop (entryFrame m #[(.ref t0), (.ref s0), .null] 8)) t := fun t k => castTop (ef_1_RRn m t0 s0) k
  obtain ⟨vm0, k00, X0, hS0, hk0, hZ0, hown0⟩ := own_W0 X0 e0 hZ hown
  obtain ⟨T1, X1, e1, st1⟩ := initO X0 hx hZ0 hown0 (hw _ (List.mem_of_getElem? (i := 7) rfl)) (hw _ (List.mem_of_getElem? (i := 8) rfl)) (hw _ (List.mem_of_getElem? (i := 9) rfl)) e0 (g := (mkF m 1 #[.val (.ref t0), .val (.ref s0), .val .null, .unset, .unset, .unset, .unset, .unset] [(.ref t0)])) rfl (by rw [hml]; rfl) rfl (hb hby d1_1) (by decide) (W := 0) (by show 2 * 0 + _ ≤ _; exact Nat.le_of_eq rfl) (by decide)
  obtain ⟨a2, T2, h2, kq2, X2, e2, E2, hS2, hkq2, hZ2, hown2, st2⟩ := ldcS X1 hx hZ0 hown0 (hw _ (List.mem_of_getElem? (i := 10) rfl)) (own_satoms hw) e1 hS0 hk0 (g := (mkF m 6 #[.val (.ref t0), .val (.ref s0), .val .null, .unset, .unset, .unset, .unset, .unset] [(.ref s0), (.ref t0)])) rfl (hb hby d1_6) (n := 20) (by decide) (by decide) (by decide) (by decide)
  have f3 := E_t0.ext E2
  have f4 := F_state_t0.ext E2
  have f5 := F_transition_t0.ext E2
  have f6 := E_s0.ext E2
  have f7 := V_s0.ext E2
  have K2 : Keep h0 h2 [t0] := (Keep.refl h0 [t0]).ext E2
  have Zs2 := Nat.le_trans Z0 E2.1
  have hk2 := Nat.le_trans hk0 E2.1
  obtain ⟨_, _, ⟨T8, L8, k8, n8⟩, -, X8, ⟨Lc8, hQ8, lq8, yq8, zq8⟩, st8⟩ := Jvm.LawKit.callS X2 hx (y := (⟨"java/util/Objects", "requireNonNull", "(Ljava/lang/Object;Ljava/lang/String;)Ljava/lang/Object;"⟩ : MethodName)) hown2 (mvT hZ2 (hw _ (List.mem_of_getElem? (i := 18) rfl))) (mvT hZ2 (hw _ (List.mem_of_getElem? (i := 19) rfl))) (mvT hZ2 (hw _ (List.mem_of_getElem? (i := 20) rfl))) (mvT hZ2 (hw _ (List.mem_of_getElem? (i := 21) rfl))) (by decide) (backOf (W := 1) (rn l Z a0 hw [] s0 a2 h2 n0 Zs2 ) hZ2 (hw _ (List.mem_of_getElem? (i := 21) rfl)) (hw _ (List.mem_of_getElem? (i := 20) rfl)) (by decide) (by decide)) (g := (mkF m 8 #[.val (.ref t0), .val (.ref s0), .val .null, .unset, .unset, .unset, .unset, .unset] [(.ref a2), (.ref s0), (.ref t0)])) rfl (by rw [hml]; rfl) (argsL := [(.ref s0), (.ref a2)]) (rest := [(.ref t0)]) (lenOf pd_0 rfl) rfl (by show 2 * 0 + _ ≤ _; exact Nat.le_of_eq rfl) (hb hby d1_8) (fun _ _ => ⟨rfl, e2, (by decide : 2 + 0 ≤ _), (by decide : 24 + 0 ≤ _)⟩)
  dsimp only [Pt.U, Pt.locs, Pt.cells, Pt.slots] at X8 lq8 yq8 zq8 st8 hQ8
  rw [lq8, yq8, zq8] at X8
  obtain ⟨rfl, N8q, eh8⟩ := hQ8
  have N8 := Fr.app N0 N8q
  have e8 : T8.heap = h2 := eh8
  obtain ⟨T9, X9, e9, st9⟩ := castY X8 hx hZ2 hown2 (hw _ (List.mem_of_getElem? (i := 22) rfl)) e8 (Ins.self f6) (g := (mkF m 11 #[.val (.ref t0), .val (.ref s0), .val .null, .unset, .unset, .unset, .unset, .unset] [(.ref s0), (.ref t0)])) rfl rfl (hb hby d1_11)
  obtain ⟨T10, h10, X10, e10, W10, st10⟩ := putF X9 hx hZ2 hown2 (host := "") (Or.inl (hw _ (List.mem_of_getElem? (i := 24) rfl))) Via.refl e9 f4 f3 (Or.inr ⟨(hw _ (List.mem_of_getElem? (i := 25) rfl)), rfl, hnm⟩) (hw _ (List.mem_of_getElem? (i := 2) rfl)) (ty := (.array .double)) (by decide) rfl rfl (g := (mkF m 14 #[.val (.ref t0), .val (.ref s0), .val .null, .unset, .unset, .unset, .unset, .unset] [(.ref s0), (.ref t0)])) rfl rfl (hb hby d1_14)
  have f11 := f3.wr W10
  have f12 := f5.other W10 (Or.inr (so_RewardStructure_transition_state hw))
  have f13 := f6.wr W10
  have f14 := f7.other W10 (Ne.symm ne_t0_s0)
  have K10 : Keep h0 h10 [t0] := K2.wr W10 (Or.inl (List.mem_of_getElem? (i := 0) rfl))
  have Zs10 := Nat.le_trans Zs2 (Keep.of_wr W10).1
  have hk10 := Nat.le_trans hkq2 (Keep.of_wr W10).1
  have N10 := Fr.snoc X10 N8 g_t0
  have f15 : Fld Z h10 t0 "com/example/hedge/hedge/RewardStructure" "state" "[D" (.ref s0) := f4.same W10
  obtain ⟨T16, h16, X16, e16, W16, st16⟩ := putF X10 hx hZ2 hown2 (host := "") (Or.inl (hw _ (List.mem_of_getElem? (i := 26) rfl))) Via.refl e10 f12 f11 (Or.inr ⟨(hw _ (List.mem_of_getElem? (i := 27) rfl)), rfl, hnm⟩) (hw _ (List.mem_of_getElem? (i := 2) rfl)) (ty := (.array .double)) (by decide) rfl rfl (g := (mkF m 19 #[.val (.ref t0), .val (.ref s0), .val .null, .unset, .unset, .unset, .unset, .unset] [.null, (.ref t0)])) rfl rfl (hb hby d1_19)
  have f17 := f11.wr W16
  have f18 := f15.other W16 (Or.inr (so_RewardStructure_state_transition hw))
  have f19 := f13.wr W16
  have f20 := f14.other W16 (Ne.symm ne_t0_s0)
  have K16 : Keep h0 h16 [t0] := K10.wr W16 (Or.inl (List.mem_of_getElem? (i := 0) rfl))
  have Zs16 := Nat.le_trans Zs10 (Keep.of_wr W16).1
  have hk16 := Nat.le_trans hk10 (Keep.of_wr W16).1
  have N16 := Fr.snoc X16 N10 g_t0
  have f21 : Fld Z h16 t0 "com/example/hedge/hedge/RewardStructure" "transition" "[D" .null := f12.same W16
  obtain ⟨cq22, Arq22, -, Sq22, Nq22, -, -⟩ := id f20
  obtain ⟨cq23, Arq23, -, Sq23, -, Hq23, -⟩ := id f20
  obtain ⟨_, _, ⟨T24, L24, k24, n24⟩, -, X24, ⟨Lc24, hQ24, lq24, yq24, zq24⟩, st24⟩ := Jvm.LawKit.callS X16 hx (y := (⟨"com/example/hedge/hedge/RewardStructure", "checkReward", "(D)D"⟩ : MethodName)) hown2 (mvT hZ2 (hw _ (List.mem_of_getElem? (i := 33) rfl))) (mvT hZ2 (hw _ (List.mem_of_getElem? (i := 34) rfl))) (mvT hZ2 (hw _ (List.mem_of_getElem? (i := 3) rfl))) (mvT hZ2 (hw _ (List.mem_of_getElem? (i := 35) rfl))) (by decide) (backOf (W := 0) (cr l Z a0 hw []  h16 n0 Zs16 ) hZ2 (hw _ (List.mem_of_getElem? (i := 35) rfl)) (hw _ (List.mem_of_getElem? (i := 3) rfl)) (by decide) (by decide)) (g := (mkF m 46 #[.val (.ref t0), .val (.ref s0), .val .null, .val (.ref s0), .val (.int nq), .val (.int (0 : Int32)), .val (.double (0 : UInt64)), .second] [(.double (0 : UInt64))])) rfl (by rw [hml]; rfl) (argsL := [(.double (0 : UInt64))]) (rest := []) (lenOf pd_1 rfl) rfl (by show 2 * 0 + _ ≤ _; exact Nat.le_of_eq rfl) (hb hby d1_46) (fun _ _ => ⟨rfl, e16, (by decide : 2 + 0 ≤ _), (by decide : 24 + 0 ≤ _)⟩)
  dsimp only [Pt.U, Pt.locs, Pt.cells, Pt.slots] at X24 lq24 yq24 zq24 st24 hQ24
  rw [lq24, yq24, zq24] at X24
  obtain ⟨rfl, N24q, eh24⟩ := hQ24
  have N24 := Fr.app N16 N24q
  have e24 : T24.heap = h16 := eh24
  obtain ⟨fs, hr, hrun, hended, hRW⟩ := X24.leaveW hS2 (by rw [e24]; exact hk16) (v := none) (fun _ => rfl)
  refine ⟨_, _, pre0 _ ?_, hrun, hended, _, _, rfl, ?_, ⟨_, rfl⟩, hRW.2.1, hRW.2.2.1, hRW.2.2.2.mono (by decide) (by decide)⟩
  · show Steps p.tables e below (s₁.setTop (mkF m 0 #[.val (.ref t0), .val (.ref s0), .val .null, .unset, .unset, .unset, .unset, .unset] [])) _
    refine XS.aloadN X0.here hx rfl (hb hby d1_0) rfl rfl ?_
    refine st1 _ ?_
    show Steps p.tables e below (T1.setTop (mkF m 4 #[.val (.ref t0), .val (.ref s0), .val .null, .unset, .unset, .unset, .unset, .unset] [])) _
    refine XS.aloadN X1.here hx rfl (hb hby d1_4) rfl rfl ?_
    refine XS.aloadN X1.here hx rfl (hb hby d1_5) rfl rfl ?_
    refine st2 _ ?_
    show Steps p.tables e below (T2.setTop (mkF m 8 #[.val (.ref t0), .val (.ref s0), .val .null, .unset, .unset, .unset, .unset, .unset] [(.ref a2), (.ref s0), (.ref t0)])) _
    refine st8 _ ?_
    show Steps p.tables e below (T8.setTop (mkF m 11 #[.val (.ref t0), .val (.ref s0), .val .null, .unset, .unset, .unset, .unset, .unset] [(.ref s0), (.ref t0)])) _
    refine st9 _ ?_
    show Steps p.tables e below (T9.setTop (mkF m 14 #[.val (.ref t0), .val (.ref s0), .val .null, .unset, .unset, .unset, .unset, .unset] [(.ref s0), (.ref t0)])) _
    refine st10 _ ?_
    show Steps p.tables e below (T10.setTop (mkF m 17 #[.val (.ref t0), .val (.ref s0), .val .null, .unset, .unset, .unset, .unset, .unset] [])) _
    refine XS.aloadN X10.here hx rfl (hb hby d1_17) rfl rfl ?_
    refine XS.aloadN X10.here hx rfl (hb hby d1_18) rfl rfl ?_
    refine st16 _ ?_
    show Steps p.tables e below (T16.setTop (mkF m 22 #[.val (.ref t0), .val (.ref s0), .val .null, .unset, .unset, .unset, .unset, .unset] [])) _
    refine XS.aloadN X16.here hx rfl (hb hby d1_22) rfl rfl ?_
    refine XS.astoreN X16.here hx rfl (hb hby d1_23) rfl rfl (l' := #[.val (.ref t0), .val (.ref s0), .val .null, .val (.ref s0), .unset, .unset, .unset, .unset]) rfl ?_
    refine XS.aloadN X16.here hx rfl (hb hby d1_24) rfl rfl ?_
    refine X16.arraylength hx (by rw [e16]; exact Arq22.1) (State.isArrayOf_alike hZ2.alike Arq22.2.1) (g := (mkF m 25 #[.val (.ref t0), .val (.ref s0), .val .null, .val (.ref s0), .unset, .unset, .unset, .unset] [(.ref s0)])) rfl rfl (hb hby d1_25) _ ?_
    rw [len_of Sq22 Nq22]
    show Steps p.tables e below (T16.setTop (mkF m 26 #[.val (.ref t0), .val (.ref s0), .val .null, .val (.ref s0), .unset, .unset, .unset, .unset] [(.int nq)])) _
    refine XS.istore X16.here hx rfl (hb hby d1_26) rfl (l' := #[.val (.ref t0), .val (.ref s0), .val .null, .val (.ref s0), .val (.int nq), .unset, .unset, .unset]) rfl ?_
    refine XS.iconst X16.here hx rfl (hb hby d1_28) ?_
    show Steps p.tables e below (T16.setTop (mkF m 29 #[.val (.ref t0), .val (.ref s0), .val .null, .val (.ref s0), .val (.int nq), .unset, .unset, .unset] [(.int (0 : Int32))])) _
    refine XS.istore X16.here hx rfl (hb hby d1_29) rfl (l' := #[.val (.ref t0), .val (.ref s0), .val .null, .val (.ref s0), .val (.int nq), .val (.int (0 : Int32)), .unset, .unset]) rfl ?_
    refine XS.iload X16.here hx rfl (hb hby d1_31) rfl ?_
    refine XS.iload X16.here hx rfl (hb hby d1_33) rfl ?_
    refine XS.icmpNo X16.here hx rfl (hb hby d1_35) rfl (tlt hc35).2.1 ?_
    refine XS.aloadN X16.here hx rfl (hb hby d1_38) rfl rfl ?_
    refine XS.iload X16.here hx rfl (hb hby d1_39) rfl ?_
    show Steps p.tables e below (T16.setTop (mkF m 41 #[.val (.ref t0), .val (.ref s0), .val .null, .val (.ref s0), .val (.int nq), .val (.int (0 : Int32)), .unset, .unset] [(.int (0 : Int32)), (.ref s0)])) _
    refine X16.daload hx (j := (0 : Int32)) (v := (.double (0 : UInt64))) (by rw [e16]; exact Arq23.1) (State.isArrayOf_alike hZ2.alike Arq23.2.1) Arq23.2.2 (inb_of Sq23 hin41) (Has.at Hq23 (inb_of Sq23 hin41) rfl) (g := (mkF m 41 #[.val (.ref t0), .val (.ref s0), .val .null, .val (.ref s0), .val (.int nq), .val (.int (0 : Int32)), .unset, .unset] [(.int (0 : Int32)), (.ref s0)])) rfl rfl (hb hby d1_41) _ ?_
    show Steps p.tables e below (T16.setTop (mkF m 42 #[.val (.ref t0), .val (.ref s0), .val .null, .val (.ref s0), .val (.int nq), .val (.int (0 : Int32)), .unset, .unset] [(.double (0 : UInt64))])) _
    refine XS.dstore X16.here hx rfl (hb hby d1_42) rfl (l' := #[.val (.ref t0), .val (.ref s0), .val .null, .val (.ref s0), .val (.int nq), .val (.int (0 : Int32)), .val (.double (0 : UInt64)), .second]) rfl ?_
    refine XS.dload X16.here hx rfl (hb hby d1_44) rfl ?_
    refine st24 _ ?_
    show Steps p.tables e below (T24.setTop (mkF m 49 #[.val (.ref t0), .val (.ref s0), .val .null, .val (.ref s0), .val (.int nq), .val (.int (0 : Int32)), .val (.double (0 : UInt64)), .second] [(.double (0 : UInt64))])) _
    jvm_step X24.here [X24.here.top, hx, (hb hby d1_49), Value.category]
    show Steps p.tables e below (T24.setTop (mkF m 50 #[.val (.ref t0), .val (.ref s0), .val .null, .val (.ref s0), .val (.int nq), .val (.int (0 : Int32)), .val (.double (0 : UInt64)), .second] [])) _
    refine XS.iinc X24.here hx rfl (hb hby d1_50) rfl (l' := #[.val (.ref t0), .val (.ref s0), .val .null, .val (.ref s0), .val (.int nq), .val (.int ((0 : Int32) + (1 : Int32))), .val (.double (0 : UInt64)), .second]) rfl ?_
    show Steps p.tables e below (T24.setTop (mkF m 53 #[.val (.ref t0), .val (.ref s0), .val .null, .val (.ref s0), .val (.int nq), .val (.int ((0 : Int32) + (1 : Int32))), .val (.double (0 : UInt64)), .second] [])) _
    rw [show ((0 : Int32) + (1 : Int32)) = (1 : Int32) by decide]
    show Steps p.tables e below (T24.setTop (mkF m 53 #[.val (.ref t0), .val (.ref s0), .val .null, .val (.ref s0), .val (.int nq), .val (.int (1 : Int32)), .val (.double (0 : UInt64)), .second] [])) _
    refine XS.goto X24.here hx rfl (pc0 := 53) (pc' := 31) rfl (hb hby d1_53) (by decide) (by decide) ?_
    refine XS.iload X24.here hx rfl (hb hby d1_31) rfl ?_
    refine XS.iload X24.here hx rfl (hb hby d1_33) rfl ?_
    refine XS.icmpYes X24.here hx rfl (pc0 := 35) (pc' := 56) rfl (hb hby d1_35) rfl (flt hc35_1).2.1 (by decide) (by decide) ?_
    refine XS.aloadN X24.here hx rfl (hb hby d1_56) rfl rfl ?_
    show Steps p.tables e below (T24.setTop (mkF m 57 #[.val (.ref t0), .val (.ref s0), .val .null, .val (.ref s0), .val (.int nq), .val (.int (1 : Int32)), .val (.double (0 : UInt64)), .second] [.null])) _
    refine XS.ifnullYes X24.here hx rfl (pc0 := 57) (pc' := 94) rfl (hb hby d1_57) rfl (by decide) (by decide) ?_
    exact X24.returnOut hx Bd.returns (hb hby d1_94) hr
  · show Q_ini1n Z t0 s0 nq ka h0 n0 _ T24.heap _
    rw [e24]
    exact ⟨rfl, N24, K16, f17, f18, f21⟩
def Q_ini2n (Z : State) (t0 : Addr) (s0 : Addr) (nq : Int32) (ka : ClassId) (h0 : Heap) (n0 : Nat) (v : Option Value) (h : Heap) (L : List Loc) : Prop := v = none ∧ Fr n0 L ∧ Keep h0 h [t0] ∧ Exa Z h t0 "com/example/hedge/hedge/RewardStructure" ∧ Fld Z h t0 "com/example/hedge/hedge/RewardStructure" "state" "[D" (.ref s0) ∧ Fld Z h t0 "com/example/hedge/hedge/RewardStructure" "transition" "[D" .null
set_option maxRecDepth 65536 in
set_option maxHeartbeats 40000000 in
theorem ini2n (l : Launch) (Z : State) (a0 : Array Value) (hw : ∀ d ∈ tables_1, d.before a0 Z = true) (ws : List Jvm.Cond) (t0 : Addr) (s0 : Addr) (nq : Int32) (ka : ClassId) (h0 : Heap) (n0 : Nat) (Z0 : n0 ≤ h0.size) (E_t0 : Exa Z h0 t0 "com/example/hedge/hedge/RewardStructure") (g_t0 : n0 ≤ t0) (F_state_t0 : Fld Z h0 t0 "com/example/hedge/hedge/RewardStructure" "state" "[D" .null) (F_transition_t0 : Fld Z h0 t0 "com/example/hedge/hedge/RewardStructure" "transition" "[D" .null) (E_s0 : Exa Z h0 s0 "[D") (V_s0 : Arv Z h0 s0 ka .double nq [] (.double (0 : UInt64))) (ne_t0_s0 : t0 ≠ s0) (hc35 : (0 : Int32) < nq) (hin41 : ¬ (0 : Int32) < 0 ∧ (0 : Int32) < nq) (hc35_1 : (1 : Int32) < nq) (hin41_1 : ¬ (1 : Int32) < 0 ∧ (1 : Int32) < nq) (hc35_2 : ¬ ((2 : Int32) < nq)) :
    MetFree l (⟨"com/example/hedge/hedge/RewardStructure", "<init>", "([D[D)V"⟩ : MethodName) (head1 (Jvm.Cond.code (⟨"com/example/hedge/hedge/RewardStructure", "<init>", "([D[D)V"⟩ : MethodName) prog_30_method_1_code 8 none :: ws) ({ frames := 1, cells := 2, slots := 24, locals := 14 } : Room)) (fun a U => a = #[(.ref t0), (.ref s0), .null] ∧ Z.Warmed39 U.vm ∧ U.heap = h0) (fun _ _ _ _ _ => True) (fun _ U o U' => ∃ v L, o = .returned v ∧ Q_ini2n Z t0 s0 nq ka h0 n0 v U'.heap L ∧ ReturnedEndW U o U' L ({ frames := 1, cells := 2, slots := 24, locals := 14 } : Room).cells ({ frames := 1, cells := 2, slots := 24, locals := 14 } : Room).slots) := by
  refine MetFree.of_bodySF (plainFor_of_name pn_com_example_hedge_hedge_RewardStructure) hisR ?_
  intro p e s m args below meth c s₁ Bd hml0 hP hK
  obtain ⟨rfl, hZ, hh⟩ := hP
  have hx := Bd.exec
  have hby := Bd.bytes
  have hml : c.maxLocals = 8 := hml0
  have hown : s.vm.findClass "com/example/hedge/hedge/RewardStructure" = some m.cls := findClass_of_methodNamed Bd.named
  have hnm := (name_of_methodNamed Bd.named Bd.method).1
  have X0 : Stand p l e ({ frames := 1, cells := 2, slots := 24, locals := 14 } : Room) s m #[(.ref t0), (.ref s0), .null] below meth c s₁ [] 0 0 := Stand.of_body Bd
  have e0 : s₁.heap = h0 := by rw [← hh, Bd.state]; rfl
  have N0 := Fr.nil n0
  have pre0 : ∀ t, Steps p.tables e below (s₁.setTop (mkF m 0 #[.val (.ref t0), .val (.ref s0), .val .null, .unset, .unset, .unset, .unset, .unset] [])) t → Steps p.tables e below (s₁.setTop (entryFrame m #[(.ref t0), (.ref s0), .null] 8)) t := fun t k => castTop (ef_1_RRn m t0 s0) k
  obtain ⟨vm0, k00, X0, hS0, hk0, hZ0, hown0⟩ := own_W0 X0 e0 hZ hown
  obtain ⟨T1, X1, e1, st1⟩ := initO X0 hx hZ0 hown0 (hw _ (List.mem_of_getElem? (i := 7) rfl)) (hw _ (List.mem_of_getElem? (i := 8) rfl)) (hw _ (List.mem_of_getElem? (i := 9) rfl)) e0 (g := (mkF m 1 #[.val (.ref t0), .val (.ref s0), .val .null, .unset, .unset, .unset, .unset, .unset] [(.ref t0)])) rfl (by rw [hml]; rfl) rfl (hb hby d1_1) (by decide) (W := 0) (by show 2 * 0 + _ ≤ _; exact Nat.le_of_eq rfl) (by decide)
  obtain ⟨a2, T2, h2, kq2, X2, e2, E2, hS2, hkq2, hZ2, hown2, st2⟩ := ldcS X1 hx hZ0 hown0 (hw _ (List.mem_of_getElem? (i := 10) rfl)) (own_satoms hw) e1 hS0 hk0 (g := (mkF m 6 #[.val (.ref t0), .val (.ref s0), .val .null, .unset, .unset, .unset, .unset, .unset] [(.ref s0), (.ref t0)])) rfl (hb hby d1_6) (n := 20) (by decide) (by decide) (by decide) (by decide)
  have f3 := E_t0.ext E2
  have f4 := F_state_t0.ext E2
  have f5 := F_transition_t0.ext E2
  have f6 := E_s0.ext E2
  have f7 := V_s0.ext E2
  have K2 : Keep h0 h2 [t0] := (Keep.refl h0 [t0]).ext E2
  have Zs2 := Nat.le_trans Z0 E2.1
  have hk2 := Nat.le_trans hk0 E2.1
  obtain ⟨_, _, ⟨T8, L8, k8, n8⟩, -, X8, ⟨Lc8, hQ8, lq8, yq8, zq8⟩, st8⟩ := Jvm.LawKit.callS X2 hx (y := (⟨"java/util/Objects", "requireNonNull", "(Ljava/lang/Object;Ljava/lang/String;)Ljava/lang/Object;"⟩ : MethodName)) hown2 (mvT hZ2 (hw _ (List.mem_of_getElem? (i := 18) rfl))) (mvT hZ2 (hw _ (List.mem_of_getElem? (i := 19) rfl))) (mvT hZ2 (hw _ (List.mem_of_getElem? (i := 20) rfl))) (mvT hZ2 (hw _ (List.mem_of_getElem? (i := 21) rfl))) (by decide) (backOf (W := 1) (rn l Z a0 hw [] s0 a2 h2 n0 Zs2 ) hZ2 (hw _ (List.mem_of_getElem? (i := 21) rfl)) (hw _ (List.mem_of_getElem? (i := 20) rfl)) (by decide) (by decide)) (g := (mkF m 8 #[.val (.ref t0), .val (.ref s0), .val .null, .unset, .unset, .unset, .unset, .unset] [(.ref a2), (.ref s0), (.ref t0)])) rfl (by rw [hml]; rfl) (argsL := [(.ref s0), (.ref a2)]) (rest := [(.ref t0)]) (lenOf pd_0 rfl) rfl (by show 2 * 0 + _ ≤ _; exact Nat.le_of_eq rfl) (hb hby d1_8) (fun _ _ => ⟨rfl, e2, (by decide : 2 + 0 ≤ _), (by decide : 24 + 0 ≤ _)⟩)
  dsimp only [Pt.U, Pt.locs, Pt.cells, Pt.slots] at X8 lq8 yq8 zq8 st8 hQ8
  rw [lq8, yq8, zq8] at X8
  obtain ⟨rfl, N8q, eh8⟩ := hQ8
  have N8 := Fr.app N0 N8q
  have e8 : T8.heap = h2 := eh8
  obtain ⟨T9, X9, e9, st9⟩ := castY X8 hx hZ2 hown2 (hw _ (List.mem_of_getElem? (i := 22) rfl)) e8 (Ins.self f6) (g := (mkF m 11 #[.val (.ref t0), .val (.ref s0), .val .null, .unset, .unset, .unset, .unset, .unset] [(.ref s0), (.ref t0)])) rfl rfl (hb hby d1_11)
  obtain ⟨T10, h10, X10, e10, W10, st10⟩ := putF X9 hx hZ2 hown2 (host := "") (Or.inl (hw _ (List.mem_of_getElem? (i := 24) rfl))) Via.refl e9 f4 f3 (Or.inr ⟨(hw _ (List.mem_of_getElem? (i := 25) rfl)), rfl, hnm⟩) (hw _ (List.mem_of_getElem? (i := 2) rfl)) (ty := (.array .double)) (by decide) rfl rfl (g := (mkF m 14 #[.val (.ref t0), .val (.ref s0), .val .null, .unset, .unset, .unset, .unset, .unset] [(.ref s0), (.ref t0)])) rfl rfl (hb hby d1_14)
  have f11 := f3.wr W10
  have f12 := f5.other W10 (Or.inr (so_RewardStructure_transition_state hw))
  have f13 := f6.wr W10
  have f14 := f7.other W10 (Ne.symm ne_t0_s0)
  have K10 : Keep h0 h10 [t0] := K2.wr W10 (Or.inl (List.mem_of_getElem? (i := 0) rfl))
  have Zs10 := Nat.le_trans Zs2 (Keep.of_wr W10).1
  have hk10 := Nat.le_trans hkq2 (Keep.of_wr W10).1
  have N10 := Fr.snoc X10 N8 g_t0
  have f15 : Fld Z h10 t0 "com/example/hedge/hedge/RewardStructure" "state" "[D" (.ref s0) := f4.same W10
  obtain ⟨T16, h16, X16, e16, W16, st16⟩ := putF X10 hx hZ2 hown2 (host := "") (Or.inl (hw _ (List.mem_of_getElem? (i := 26) rfl))) Via.refl e10 f12 f11 (Or.inr ⟨(hw _ (List.mem_of_getElem? (i := 27) rfl)), rfl, hnm⟩) (hw _ (List.mem_of_getElem? (i := 2) rfl)) (ty := (.array .double)) (by decide) rfl rfl (g := (mkF m 19 #[.val (.ref t0), .val (.ref s0), .val .null, .unset, .unset, .unset, .unset, .unset] [.null, (.ref t0)])) rfl rfl (hb hby d1_19)
  have f17 := f11.wr W16
  have f18 := f15.other W16 (Or.inr (so_RewardStructure_state_transition hw))
  have f19 := f13.wr W16
  have f20 := f14.other W16 (Ne.symm ne_t0_s0)
  have K16 : Keep h0 h16 [t0] := K10.wr W16 (Or.inl (List.mem_of_getElem? (i := 0) rfl))
  have Zs16 := Nat.le_trans Zs10 (Keep.of_wr W16).1
  have hk16 := Nat.le_trans hk10 (Keep.of_wr W16).1
  have N16 := Fr.snoc X16 N10 g_t0
  have f21 : Fld Z h16 t0 "com/example/hedge/hedge/RewardStructure" "transition" "[D" .null := f12.same W16
  obtain ⟨cq22, Arq22, -, Sq22, Nq22, -, -⟩ := id f20
  obtain ⟨cq23, Arq23, -, Sq23, -, Hq23, -⟩ := id f20
  obtain ⟨_, _, ⟨T24, L24, k24, n24⟩, -, X24, ⟨Lc24, hQ24, lq24, yq24, zq24⟩, st24⟩ := Jvm.LawKit.callS X16 hx (y := (⟨"com/example/hedge/hedge/RewardStructure", "checkReward", "(D)D"⟩ : MethodName)) hown2 (mvT hZ2 (hw _ (List.mem_of_getElem? (i := 33) rfl))) (mvT hZ2 (hw _ (List.mem_of_getElem? (i := 34) rfl))) (mvT hZ2 (hw _ (List.mem_of_getElem? (i := 3) rfl))) (mvT hZ2 (hw _ (List.mem_of_getElem? (i := 35) rfl))) (by decide) (backOf (W := 0) (cr l Z a0 hw []  h16 n0 Zs16 ) hZ2 (hw _ (List.mem_of_getElem? (i := 35) rfl)) (hw _ (List.mem_of_getElem? (i := 3) rfl)) (by decide) (by decide)) (g := (mkF m 46 #[.val (.ref t0), .val (.ref s0), .val .null, .val (.ref s0), .val (.int nq), .val (.int (0 : Int32)), .val (.double (0 : UInt64)), .second] [(.double (0 : UInt64))])) rfl (by rw [hml]; rfl) (argsL := [(.double (0 : UInt64))]) (rest := []) (lenOf pd_1 rfl) rfl (by show 2 * 0 + _ ≤ _; exact Nat.le_of_eq rfl) (hb hby d1_46) (fun _ _ => ⟨rfl, e16, (by decide : 2 + 0 ≤ _), (by decide : 24 + 0 ≤ _)⟩)
  dsimp only [Pt.U, Pt.locs, Pt.cells, Pt.slots] at X24 lq24 yq24 zq24 st24 hQ24
  rw [lq24, yq24, zq24] at X24
  obtain ⟨rfl, N24q, eh24⟩ := hQ24
  have N24 := Fr.app N16 N24q
  have e24 : T24.heap = h16 := eh24
  obtain ⟨cq25, Arq25, -, Sq25, -, Hq25, -⟩ := id f20
  obtain ⟨_, _, ⟨T26, L26, k26, n26⟩, -, X26, ⟨Lc26, hQ26, lq26, yq26, zq26⟩, st26⟩ := Jvm.LawKit.callS X24 hx (y := (⟨"com/example/hedge/hedge/RewardStructure", "checkReward", "(D)D"⟩ : MethodName)) hown2 (mvT hZ2 (hw _ (List.mem_of_getElem? (i := 33) rfl))) (mvT hZ2 (hw _ (List.mem_of_getElem? (i := 34) rfl))) (mvT hZ2 (hw _ (List.mem_of_getElem? (i := 3) rfl))) (mvT hZ2 (hw _ (List.mem_of_getElem? (i := 35) rfl))) (by decide) (backOf (W := 0) (cr l Z a0 hw []  h16 n0 Zs16 ) hZ2 (hw _ (List.mem_of_getElem? (i := 35) rfl)) (hw _ (List.mem_of_getElem? (i := 3) rfl)) (by decide) (by decide)) (g := (mkF m 46 #[.val (.ref t0), .val (.ref s0), .val .null, .val (.ref s0), .val (.int nq), .val (.int (1 : Int32)), .val (.double (0 : UInt64)), .second] [(.double (0 : UInt64))])) rfl (by rw [hml]; rfl) (argsL := [(.double (0 : UInt64))]) (rest := []) (lenOf pd_1 rfl) rfl (by show 2 * 0 + _ ≤ _; exact Nat.le_of_eq rfl) (hb hby d1_46) (fun _ _ => ⟨rfl, e24, (by decide : 2 + 0 ≤ _), (by decide : 24 + 0 ≤ _)⟩)
  dsimp only [Pt.U, Pt.locs, Pt.cells, Pt.slots] at X26 lq26 yq26 zq26 st26 hQ26
  rw [lq26, yq26, zq26] at X26
  obtain ⟨rfl, N26q, eh26⟩ := hQ26
  have N26 := Fr.app N24 N26q
  have e26 : T26.heap = h16 := eh26
  obtain ⟨fs, hr, hrun, hended, hRW⟩ := X26.leaveW hS2 (by rw [e26]; exact hk16) (v := none) (fun _ => rfl)
  refine ⟨_, _, pre0 _ ?_, hrun, hended, _, _, rfl, ?_, ⟨_, rfl⟩, hRW.2.1, hRW.2.2.1, hRW.2.2.2.mono (by decide) (by decide)⟩
  · show Steps p.tables e below (s₁.setTop (mkF m 0 #[.val (.ref t0), .val (.ref s0), .val .null, .unset, .unset, .unset, .unset, .unset] [])) _
    refine XS.aloadN X0.here hx rfl (hb hby d1_0) rfl rfl ?_
    refine st1 _ ?_
    show Steps p.tables e below (T1.setTop (mkF m 4 #[.val (.ref t0), .val (.ref s0), .val .null, .unset, .unset, .unset, .unset, .unset] [])) _
    refine XS.aloadN X1.here hx rfl (hb hby d1_4) rfl rfl ?_
    refine XS.aloadN X1.here hx rfl (hb hby d1_5) rfl rfl ?_
    refine st2 _ ?_
    show Steps p.tables e below (T2.setTop (mkF m 8 #[.val (.ref t0), .val (.ref s0), .val .null, .unset, .unset, .unset, .unset, .unset] [(.ref a2), (.ref s0), (.ref t0)])) _
    refine st8 _ ?_
    show Steps p.tables e below (T8.setTop (mkF m 11 #[.val (.ref t0), .val (.ref s0), .val .null, .unset, .unset, .unset, .unset, .unset] [(.ref s0), (.ref t0)])) _
    refine st9 _ ?_
    show Steps p.tables e below (T9.setTop (mkF m 14 #[.val (.ref t0), .val (.ref s0), .val .null, .unset, .unset, .unset, .unset, .unset] [(.ref s0), (.ref t0)])) _
    refine st10 _ ?_
    show Steps p.tables e below (T10.setTop (mkF m 17 #[.val (.ref t0), .val (.ref s0), .val .null, .unset, .unset, .unset, .unset, .unset] [])) _
    refine XS.aloadN X10.here hx rfl (hb hby d1_17) rfl rfl ?_
    refine XS.aloadN X10.here hx rfl (hb hby d1_18) rfl rfl ?_
    refine st16 _ ?_
    show Steps p.tables e below (T16.setTop (mkF m 22 #[.val (.ref t0), .val (.ref s0), .val .null, .unset, .unset, .unset, .unset, .unset] [])) _
    refine XS.aloadN X16.here hx rfl (hb hby d1_22) rfl rfl ?_
    refine XS.astoreN X16.here hx rfl (hb hby d1_23) rfl rfl (l' := #[.val (.ref t0), .val (.ref s0), .val .null, .val (.ref s0), .unset, .unset, .unset, .unset]) rfl ?_
    refine XS.aloadN X16.here hx rfl (hb hby d1_24) rfl rfl ?_
    refine X16.arraylength hx (by rw [e16]; exact Arq22.1) (State.isArrayOf_alike hZ2.alike Arq22.2.1) (g := (mkF m 25 #[.val (.ref t0), .val (.ref s0), .val .null, .val (.ref s0), .unset, .unset, .unset, .unset] [(.ref s0)])) rfl rfl (hb hby d1_25) _ ?_
    rw [len_of Sq22 Nq22]
    show Steps p.tables e below (T16.setTop (mkF m 26 #[.val (.ref t0), .val (.ref s0), .val .null, .val (.ref s0), .unset, .unset, .unset, .unset] [(.int nq)])) _
    refine XS.istore X16.here hx rfl (hb hby d1_26) rfl (l' := #[.val (.ref t0), .val (.ref s0), .val .null, .val (.ref s0), .val (.int nq), .unset, .unset, .unset]) rfl ?_
    refine XS.iconst X16.here hx rfl (hb hby d1_28) ?_
    show Steps p.tables e below (T16.setTop (mkF m 29 #[.val (.ref t0), .val (.ref s0), .val .null, .val (.ref s0), .val (.int nq), .unset, .unset, .unset] [(.int (0 : Int32))])) _
    refine XS.istore X16.here hx rfl (hb hby d1_29) rfl (l' := #[.val (.ref t0), .val (.ref s0), .val .null, .val (.ref s0), .val (.int nq), .val (.int (0 : Int32)), .unset, .unset]) rfl ?_
    refine XS.iload X16.here hx rfl (hb hby d1_31) rfl ?_
    refine XS.iload X16.here hx rfl (hb hby d1_33) rfl ?_
    refine XS.icmpNo X16.here hx rfl (hb hby d1_35) rfl (tlt hc35).2.1 ?_
    refine XS.aloadN X16.here hx rfl (hb hby d1_38) rfl rfl ?_
    refine XS.iload X16.here hx rfl (hb hby d1_39) rfl ?_
    show Steps p.tables e below (T16.setTop (mkF m 41 #[.val (.ref t0), .val (.ref s0), .val .null, .val (.ref s0), .val (.int nq), .val (.int (0 : Int32)), .unset, .unset] [(.int (0 : Int32)), (.ref s0)])) _
    refine X16.daload hx (j := (0 : Int32)) (v := (.double (0 : UInt64))) (by rw [e16]; exact Arq23.1) (State.isArrayOf_alike hZ2.alike Arq23.2.1) Arq23.2.2 (inb_of Sq23 hin41) (Has.at Hq23 (inb_of Sq23 hin41) rfl) (g := (mkF m 41 #[.val (.ref t0), .val (.ref s0), .val .null, .val (.ref s0), .val (.int nq), .val (.int (0 : Int32)), .unset, .unset] [(.int (0 : Int32)), (.ref s0)])) rfl rfl (hb hby d1_41) _ ?_
    show Steps p.tables e below (T16.setTop (mkF m 42 #[.val (.ref t0), .val (.ref s0), .val .null, .val (.ref s0), .val (.int nq), .val (.int (0 : Int32)), .unset, .unset] [(.double (0 : UInt64))])) _
    refine XS.dstore X16.here hx rfl (hb hby d1_42) rfl (l' := #[.val (.ref t0), .val (.ref s0), .val .null, .val (.ref s0), .val (.int nq), .val (.int (0 : Int32)), .val (.double (0 : UInt64)), .second]) rfl ?_
    refine XS.dload X16.here hx rfl (hb hby d1_44) rfl ?_
    refine st24 _ ?_
    show Steps p.tables e below (T24.setTop (mkF m 49 #[.val (.ref t0), .val (.ref s0), .val .null, .val (.ref s0), .val (.int nq), .val (.int (0 : Int32)), .val (.double (0 : UInt64)), .second] [(.double (0 : UInt64))])) _
    jvm_step X24.here [X24.here.top, hx, (hb hby d1_49), Value.category]
    show Steps p.tables e below (T24.setTop (mkF m 50 #[.val (.ref t0), .val (.ref s0), .val .null, .val (.ref s0), .val (.int nq), .val (.int (0 : Int32)), .val (.double (0 : UInt64)), .second] [])) _
    refine XS.iinc X24.here hx rfl (hb hby d1_50) rfl (l' := #[.val (.ref t0), .val (.ref s0), .val .null, .val (.ref s0), .val (.int nq), .val (.int ((0 : Int32) + (1 : Int32))), .val (.double (0 : UInt64)), .second]) rfl ?_
    show Steps p.tables e below (T24.setTop (mkF m 53 #[.val (.ref t0), .val (.ref s0), .val .null, .val (.ref s0), .val (.int nq), .val (.int ((0 : Int32) + (1 : Int32))), .val (.double (0 : UInt64)), .second] [])) _
    rw [show ((0 : Int32) + (1 : Int32)) = (1 : Int32) by decide]
    show Steps p.tables e below (T24.setTop (mkF m 53 #[.val (.ref t0), .val (.ref s0), .val .null, .val (.ref s0), .val (.int nq), .val (.int (1 : Int32)), .val (.double (0 : UInt64)), .second] [])) _
    refine XS.goto X24.here hx rfl (pc0 := 53) (pc' := 31) rfl (hb hby d1_53) (by decide) (by decide) ?_
    refine XS.iload X24.here hx rfl (hb hby d1_31) rfl ?_
    refine XS.iload X24.here hx rfl (hb hby d1_33) rfl ?_
    refine XS.icmpNo X24.here hx rfl (hb hby d1_35) rfl (tlt hc35_1).2.1 ?_
    refine XS.aloadN X24.here hx rfl (hb hby d1_38) rfl rfl ?_
    show Steps p.tables e below (T24.setTop (mkF m 39 #[.val (.ref t0), .val (.ref s0), .val .null, .val (.ref s0), .val (.int nq), .val (.int (1 : Int32)), .val (.double (0 : UInt64)), .second] [(.ref s0)])) _
    refine XS.iload X24.here hx rfl (hb hby d1_39) rfl ?_
    refine X24.daload hx (j := (1 : Int32)) (v := (.double (0 : UInt64))) (by rw [e24]; exact Arq25.1) (State.isArrayOf_alike hZ2.alike Arq25.2.1) Arq25.2.2 (inb_of Sq25 hin41_1) (Has.at Hq25 (inb_of Sq25 hin41_1) rfl) (g := (mkF m 41 #[.val (.ref t0), .val (.ref s0), .val .null, .val (.ref s0), .val (.int nq), .val (.int (1 : Int32)), .val (.double (0 : UInt64)), .second] [(.int (1 : Int32)), (.ref s0)])) rfl rfl (hb hby d1_41) _ ?_
    show Steps p.tables e below (T24.setTop (mkF m 42 #[.val (.ref t0), .val (.ref s0), .val .null, .val (.ref s0), .val (.int nq), .val (.int (1 : Int32)), .val (.double (0 : UInt64)), .second] [(.double (0 : UInt64))])) _
    refine XS.dstore X24.here hx rfl (hb hby d1_42) rfl (l' := #[.val (.ref t0), .val (.ref s0), .val .null, .val (.ref s0), .val (.int nq), .val (.int (1 : Int32)), .val (.double (0 : UInt64)), .second]) rfl ?_
    refine XS.dload X24.here hx rfl (hb hby d1_44) rfl ?_
    refine st26 _ ?_
    show Steps p.tables e below (T26.setTop (mkF m 49 #[.val (.ref t0), .val (.ref s0), .val .null, .val (.ref s0), .val (.int nq), .val (.int (1 : Int32)), .val (.double (0 : UInt64)), .second] [(.double (0 : UInt64))])) _
    jvm_step X26.here [X26.here.top, hx, (hb hby d1_49), Value.category]
    show Steps p.tables e below (T26.setTop (mkF m 50 #[.val (.ref t0), .val (.ref s0), .val .null, .val (.ref s0), .val (.int nq), .val (.int (1 : Int32)), .val (.double (0 : UInt64)), .second] [])) _
    refine XS.iinc X26.here hx rfl (hb hby d1_50) rfl (l' := #[.val (.ref t0), .val (.ref s0), .val .null, .val (.ref s0), .val (.int nq), .val (.int ((1 : Int32) + (1 : Int32))), .val (.double (0 : UInt64)), .second]) rfl ?_
    show Steps p.tables e below (T26.setTop (mkF m 53 #[.val (.ref t0), .val (.ref s0), .val .null, .val (.ref s0), .val (.int nq), .val (.int ((1 : Int32) + (1 : Int32))), .val (.double (0 : UInt64)), .second] [])) _
    rw [show ((1 : Int32) + (1 : Int32)) = (2 : Int32) by decide]
    show Steps p.tables e below (T26.setTop (mkF m 53 #[.val (.ref t0), .val (.ref s0), .val .null, .val (.ref s0), .val (.int nq), .val (.int (2 : Int32)), .val (.double (0 : UInt64)), .second] [])) _
    refine XS.goto X26.here hx rfl (pc0 := 53) (pc' := 31) rfl (hb hby d1_53) (by decide) (by decide) ?_
    refine XS.iload X26.here hx rfl (hb hby d1_31) rfl ?_
    refine XS.iload X26.here hx rfl (hb hby d1_33) rfl ?_
    refine XS.icmpYes X26.here hx rfl (pc0 := 35) (pc' := 56) rfl (hb hby d1_35) rfl (flt hc35_2).2.1 (by decide) (by decide) ?_
    show Steps p.tables e below (T26.setTop (mkF m 56 #[.val (.ref t0), .val (.ref s0), .val .null, .val (.ref s0), .val (.int nq), .val (.int (2 : Int32)), .val (.double (0 : UInt64)), .second] [])) _
    refine XS.aloadN X26.here hx rfl (hb hby d1_56) rfl rfl ?_
    refine XS.ifnullYes X26.here hx rfl (pc0 := 57) (pc' := 94) rfl (hb hby d1_57) rfl (by decide) (by decide) ?_
    exact X26.returnOut hx Bd.returns (hb hby d1_94) hr
  · show Q_ini2n Z t0 s0 nq ka h0 n0 _ T26.heap _
    rw [e26]
    exact ⟨rfl, N26, K16, f17, f18, f21⟩
def Q_ini3n (Z : State) (t0 : Addr) (s0 : Addr) (nq : Int32) (ka : ClassId) (h0 : Heap) (n0 : Nat) (v : Option Value) (h : Heap) (L : List Loc) : Prop := v = none ∧ Fr n0 L ∧ Keep h0 h [t0] ∧ Exa Z h t0 "com/example/hedge/hedge/RewardStructure" ∧ Fld Z h t0 "com/example/hedge/hedge/RewardStructure" "state" "[D" (.ref s0) ∧ Fld Z h t0 "com/example/hedge/hedge/RewardStructure" "transition" "[D" .null
set_option maxRecDepth 65536 in
set_option maxHeartbeats 40000000 in
theorem ini3n (l : Launch) (Z : State) (a0 : Array Value) (hw : ∀ d ∈ tables_1, d.before a0 Z = true) (ws : List Jvm.Cond) (t0 : Addr) (s0 : Addr) (nq : Int32) (ka : ClassId) (h0 : Heap) (n0 : Nat) (Z0 : n0 ≤ h0.size) (E_t0 : Exa Z h0 t0 "com/example/hedge/hedge/RewardStructure") (g_t0 : n0 ≤ t0) (F_state_t0 : Fld Z h0 t0 "com/example/hedge/hedge/RewardStructure" "state" "[D" .null) (F_transition_t0 : Fld Z h0 t0 "com/example/hedge/hedge/RewardStructure" "transition" "[D" .null) (E_s0 : Exa Z h0 s0 "[D") (V_s0 : Arv Z h0 s0 ka .double nq [] (.double (0 : UInt64))) (ne_t0_s0 : t0 ≠ s0) (hc35 : (0 : Int32) < nq) (hin41 : ¬ (0 : Int32) < 0 ∧ (0 : Int32) < nq) (hc35_1 : (1 : Int32) < nq) (hin41_1 : ¬ (1 : Int32) < 0 ∧ (1 : Int32) < nq) (hc35_2 : (2 : Int32) < nq) (hin41_2 : ¬ (2 : Int32) < 0 ∧ (2 : Int32) < nq) (hc35_3 : ¬ ((3 : Int32) < nq)) :
    MetFree l (⟨"com/example/hedge/hedge/RewardStructure", "<init>", "([D[D)V"⟩ : MethodName) (head1 (Jvm.Cond.code (⟨"com/example/hedge/hedge/RewardStructure", "<init>", "([D[D)V"⟩ : MethodName) prog_30_method_1_code 8 none :: ws) ({ frames := 1, cells := 2, slots := 24, locals := 14 } : Room)) (fun a U => a = #[(.ref t0), (.ref s0), .null] ∧ Z.Warmed39 U.vm ∧ U.heap = h0) (fun _ _ _ _ _ => True) (fun _ U o U' => ∃ v L, o = .returned v ∧ Q_ini3n Z t0 s0 nq ka h0 n0 v U'.heap L ∧ ReturnedEndW U o U' L ({ frames := 1, cells := 2, slots := 24, locals := 14 } : Room).cells ({ frames := 1, cells := 2, slots := 24, locals := 14 } : Room).slots) := by
  refine MetFree.of_bodySF (plainFor_of_name pn_com_example_hedge_hedge_RewardStructure) hisR ?_
  intro p e s m args below meth c s₁ Bd hml0 hP hK
  obtain ⟨rfl, hZ, hh⟩ := hP
  have hx := Bd.exec
  have hby := Bd.bytes
  have hml : c.maxLocals = 8 := hml0
  have hown : s.vm.findClass "com/example/hedge/hedge/RewardStructure" = some m.cls := findClass_of_methodNamed Bd.named
  have hnm := (name_of_methodNamed Bd.named Bd.method).1
  have X0 : Stand p l e ({ frames := 1, cells := 2, slots := 24, locals := 14 } : Room) s m #[(.ref t0), (.ref s0), .null] below meth c s₁ [] 0 0 := Stand.of_body Bd
  have e0 : s₁.heap = h0 := by rw [← hh, Bd.state]; rfl
  have N0 := Fr.nil n0
  have pre0 : ∀ t, Steps p.tables e below (s₁.setTop (mkF m 0 #[.val (.ref t0), .val (.ref s0), .val .null, .unset, .unset, .unset, .unset, .unset] [])) t → Steps p.tables e below (s₁.setTop (entryFrame m #[(.ref t0), (.ref s0), .null] 8)) t := fun t k => castTop (ef_1_RRn m t0 s0) k
  obtain ⟨vm0, k00, X0, hS0, hk0, hZ0, hown0⟩ := own_W0 X0 e0 hZ hown
  obtain ⟨T1, X1, e1, st1⟩ := initO X0 hx hZ0 hown0 (hw _ (List.mem_of_getElem? (i := 7) rfl)) (hw _ (List.mem_of_getElem? (i := 8) rfl)) (hw _ (List.mem_of_getElem? (i := 9) rfl)) e0 (g := (mkF m 1 #[.val (.ref t0), .val (.ref s0), .val .null, .unset, .unset, .unset, .unset, .unset] [(.ref t0)])) rfl (by rw [hml]; rfl) rfl (hb hby d1_1) (by decide) (W := 0) (by show 2 * 0 + _ ≤ _; exact Nat.le_of_eq rfl) (by decide)
  obtain ⟨a2, T2, h2, kq2, X2, e2, E2, hS2, hkq2, hZ2, hown2, st2⟩ := ldcS X1 hx hZ0 hown0 (hw _ (List.mem_of_getElem? (i := 10) rfl)) (own_satoms hw) e1 hS0 hk0 (g := (mkF m 6 #[.val (.ref t0), .val (.ref s0), .val .null, .unset, .unset, .unset, .unset, .unset] [(.ref s0), (.ref t0)])) rfl (hb hby d1_6) (n := 20) (by decide) (by decide) (by decide) (by decide)
  have f3 := E_t0.ext E2
  have f4 := F_state_t0.ext E2
  have f5 := F_transition_t0.ext E2
  have f6 := E_s0.ext E2
  have f7 := V_s0.ext E2
  have K2 : Keep h0 h2 [t0] := (Keep.refl h0 [t0]).ext E2
  have Zs2 := Nat.le_trans Z0 E2.1
  have hk2 := Nat.le_trans hk0 E2.1
  obtain ⟨_, _, ⟨T8, L8, k8, n8⟩, -, X8, ⟨Lc8, hQ8, lq8, yq8, zq8⟩, st8⟩ := Jvm.LawKit.callS X2 hx (y := (⟨"java/util/Objects", "requireNonNull", "(Ljava/lang/Object;Ljava/lang/String;)Ljava/lang/Object;"⟩ : MethodName)) hown2 (mvT hZ2 (hw _ (List.mem_of_getElem? (i := 18) rfl))) (mvT hZ2 (hw _ (List.mem_of_getElem? (i := 19) rfl))) (mvT hZ2 (hw _ (List.mem_of_getElem? (i := 20) rfl))) (mvT hZ2 (hw _ (List.mem_of_getElem? (i := 21) rfl))) (by decide) (backOf (W := 1) (rn l Z a0 hw [] s0 a2 h2 n0 Zs2 ) hZ2 (hw _ (List.mem_of_getElem? (i := 21) rfl)) (hw _ (List.mem_of_getElem? (i := 20) rfl)) (by decide) (by decide)) (g := (mkF m 8 #[.val (.ref t0), .val (.ref s0), .val .null, .unset, .unset, .unset, .unset, .unset] [(.ref a2), (.ref s0), (.ref t0)])) rfl (by rw [hml]; rfl) (argsL := [(.ref s0), (.ref a2)]) (rest := [(.ref t0)]) (lenOf pd_0 rfl) rfl (by show 2 * 0 + _ ≤ _; exact Nat.le_of_eq rfl) (hb hby d1_8) (fun _ _ => ⟨rfl, e2, (by decide : 2 + 0 ≤ _), (by decide : 24 + 0 ≤ _)⟩)
  dsimp only [Pt.U, Pt.locs, Pt.cells, Pt.slots] at X8 lq8 yq8 zq8 st8 hQ8
  rw [lq8, yq8, zq8] at X8
  obtain ⟨rfl, N8q, eh8⟩ := hQ8
  have N8 := Fr.app N0 N8q
  have e8 : T8.heap = h2 := eh8
  obtain ⟨T9, X9, e9, st9⟩ := castY X8 hx hZ2 hown2 (hw _ (List.mem_of_getElem? (i := 22) rfl)) e8 (Ins.self f6) (g := (mkF m 11 #[.val (.ref t0), .val (.ref s0), .val .null, .unset, .unset, .unset, .unset, .unset] [(.ref s0), (.ref t0)])) rfl rfl (hb hby d1_11)
  obtain ⟨T10, h10, X10, e10, W10, st10⟩ := putF X9 hx hZ2 hown2 (host := "") (Or.inl (hw _ (List.mem_of_getElem? (i := 24) rfl))) Via.refl e9 f4 f3 (Or.inr ⟨(hw _ (List.mem_of_getElem? (i := 25) rfl)), rfl, hnm⟩) (hw _ (List.mem_of_getElem? (i := 2) rfl)) (ty := (.array .double)) (by decide) rfl rfl (g := (mkF m 14 #[.val (.ref t0), .val (.ref s0), .val .null, .unset, .unset, .unset, .unset, .unset] [(.ref s0), (.ref t0)])) rfl rfl (hb hby d1_14)
  have f11 := f3.wr W10
  have f12 := f5.other W10 (Or.inr (so_RewardStructure_transition_state hw))
  have f13 := f6.wr W10
  have f14 := f7.other W10 (Ne.symm ne_t0_s0)
  have K10 : Keep h0 h10 [t0] := K2.wr W10 (Or.inl (List.mem_of_getElem? (i := 0) rfl))
  have Zs10 := Nat.le_trans Zs2 (Keep.of_wr W10).1
  have hk10 := Nat.le_trans hkq2 (Keep.of_wr W10).1
  have N10 := Fr.snoc X10 N8 g_t0
  have f15 : Fld Z h10 t0 "com/example/hedge/hedge/RewardStructure" "state" "[D" (.ref s0) := f4.same W10
  obtain ⟨T16, h16, X16, e16, W16, st16⟩ := putF X10 hx hZ2 hown2 (host := "") (Or.inl (hw _ (List.mem_of_getElem? (i := 26) rfl))) Via.refl e10 f12 f11 (Or.inr ⟨(hw _ (List.mem_of_getElem? (i := 27) rfl)), rfl, hnm⟩) (hw _ (List.mem_of_getElem? (i := 2) rfl)) (ty := (.array .double)) (by decide) rfl rfl (g := (mkF m 19 #[.val (.ref t0), .val (.ref s0), .val .null, .unset, .unset, .unset, .unset, .unset] [.null, (.ref t0)])) rfl rfl (hb hby d1_19)
  have f17 := f11.wr W16
  have f18 := f15.other W16 (Or.inr (so_RewardStructure_state_transition hw))
  have f19 := f13.wr W16
  have f20 := f14.other W16 (Ne.symm ne_t0_s0)
  have K16 : Keep h0 h16 [t0] := K10.wr W16 (Or.inl (List.mem_of_getElem? (i := 0) rfl))
  have Zs16 := Nat.le_trans Zs10 (Keep.of_wr W16).1
  have hk16 := Nat.le_trans hk10 (Keep.of_wr W16).1
  have N16 := Fr.snoc X16 N10 g_t0
  have f21 : Fld Z h16 t0 "com/example/hedge/hedge/RewardStructure" "transition" "[D" .null := f12.same W16
  obtain ⟨cq22, Arq22, -, Sq22, Nq22, -, -⟩ := id f20
  obtain ⟨cq23, Arq23, -, Sq23, -, Hq23, -⟩ := id f20
  obtain ⟨_, _, ⟨T24, L24, k24, n24⟩, -, X24, ⟨Lc24, hQ24, lq24, yq24, zq24⟩, st24⟩ := Jvm.LawKit.callS X16 hx (y := (⟨"com/example/hedge/hedge/RewardStructure", "checkReward", "(D)D"⟩ : MethodName)) hown2 (mvT hZ2 (hw _ (List.mem_of_getElem? (i := 33) rfl))) (mvT hZ2 (hw _ (List.mem_of_getElem? (i := 34) rfl))) (mvT hZ2 (hw _ (List.mem_of_getElem? (i := 3) rfl))) (mvT hZ2 (hw _ (List.mem_of_getElem? (i := 35) rfl))) (by decide) (backOf (W := 0) (cr l Z a0 hw []  h16 n0 Zs16 ) hZ2 (hw _ (List.mem_of_getElem? (i := 35) rfl)) (hw _ (List.mem_of_getElem? (i := 3) rfl)) (by decide) (by decide)) (g := (mkF m 46 #[.val (.ref t0), .val (.ref s0), .val .null, .val (.ref s0), .val (.int nq), .val (.int (0 : Int32)), .val (.double (0 : UInt64)), .second] [(.double (0 : UInt64))])) rfl (by rw [hml]; rfl) (argsL := [(.double (0 : UInt64))]) (rest := []) (lenOf pd_1 rfl) rfl (by show 2 * 0 + _ ≤ _; exact Nat.le_of_eq rfl) (hb hby d1_46) (fun _ _ => ⟨rfl, e16, (by decide : 2 + 0 ≤ _), (by decide : 24 + 0 ≤ _)⟩)
  dsimp only [Pt.U, Pt.locs, Pt.cells, Pt.slots] at X24 lq24 yq24 zq24 st24 hQ24
  rw [lq24, yq24, zq24] at X24
  obtain ⟨rfl, N24q, eh24⟩ := hQ24
  have N24 := Fr.app N16 N24q
  have e24 : T24.heap = h16 := eh24
  obtain ⟨cq25, Arq25, -, Sq25, -, Hq25, -⟩ := id f20
  obtain ⟨_, _, ⟨T26, L26, k26, n26⟩, -, X26, ⟨Lc26, hQ26, lq26, yq26, zq26⟩, st26⟩ := Jvm.LawKit.callS X24 hx (y := (⟨"com/example/hedge/hedge/RewardStructure", "checkReward", "(D)D"⟩ : MethodName)) hown2 (mvT hZ2 (hw _ (List.mem_of_getElem? (i := 33) rfl))) (mvT hZ2 (hw _ (List.mem_of_getElem? (i := 34) rfl))) (mvT hZ2 (hw _ (List.mem_of_getElem? (i := 3) rfl))) (mvT hZ2 (hw _ (List.mem_of_getElem? (i := 35) rfl))) (by decide) (backOf (W := 0) (cr l Z a0 hw []  h16 n0 Zs16 ) hZ2 (hw _ (List.mem_of_getElem? (i := 35) rfl)) (hw _ (List.mem_of_getElem? (i := 3) rfl)) (by decide) (by decide)) (g := (mkF m 46 #[.val (.ref t0), .val (.ref s0), .val .null, .val (.ref s0), .val (.int nq), .val (.int (1 : Int32)), .val (.double (0 : UInt64)), .second] [(.double (0 : UInt64))])) rfl (by rw [hml]; rfl) (argsL := [(.double (0 : UInt64))]) (rest := []) (lenOf pd_1 rfl) rfl (by show 2 * 0 + _ ≤ _; exact Nat.le_of_eq rfl) (hb hby d1_46) (fun _ _ => ⟨rfl, e24, (by decide : 2 + 0 ≤ _), (by decide : 24 + 0 ≤ _)⟩)
  dsimp only [Pt.U, Pt.locs, Pt.cells, Pt.slots] at X26 lq26 yq26 zq26 st26 hQ26
  rw [lq26, yq26, zq26] at X26
  obtain ⟨rfl, N26q, eh26⟩ := hQ26
  have N26 := Fr.app N24 N26q
  have e26 : T26.heap = h16 := eh26
  obtain ⟨cq27, Arq27, -, Sq27, -, Hq27, -⟩ := id f20
  obtain ⟨_, _, ⟨T28, L28, k28, n28⟩, -, X28, ⟨Lc28, hQ28, lq28, yq28, zq28⟩, st28⟩ := Jvm.LawKit.callS X26 hx (y := (⟨"com/example/hedge/hedge/RewardStructure", "checkReward", "(D)D"⟩ : MethodName)) hown2 (mvT hZ2 (hw _ (List.mem_of_getElem? (i := 33) rfl))) (mvT hZ2 (hw _ (List.mem_of_getElem? (i := 34) rfl))) (mvT hZ2 (hw _ (List.mem_of_getElem? (i := 3) rfl))) (mvT hZ2 (hw _ (List.mem_of_getElem? (i := 35) rfl))) (by decide) (backOf (W := 0) (cr l Z a0 hw []  h16 n0 Zs16 ) hZ2 (hw _ (List.mem_of_getElem? (i := 35) rfl)) (hw _ (List.mem_of_getElem? (i := 3) rfl)) (by decide) (by decide)) (g := (mkF m 46 #[.val (.ref t0), .val (.ref s0), .val .null, .val (.ref s0), .val (.int nq), .val (.int (2 : Int32)), .val (.double (0 : UInt64)), .second] [(.double (0 : UInt64))])) rfl (by rw [hml]; rfl) (argsL := [(.double (0 : UInt64))]) (rest := []) (lenOf pd_1 rfl) rfl (by show 2 * 0 + _ ≤ _; exact Nat.le_of_eq rfl) (hb hby d1_46) (fun _ _ => ⟨rfl, e26, (by decide : 2 + 0 ≤ _), (by decide : 24 + 0 ≤ _)⟩)
  dsimp only [Pt.U, Pt.locs, Pt.cells, Pt.slots] at X28 lq28 yq28 zq28 st28 hQ28
  rw [lq28, yq28, zq28] at X28
  obtain ⟨rfl, N28q, eh28⟩ := hQ28
  have N28 := Fr.app N26 N28q
  have e28 : T28.heap = h16 := eh28
  obtain ⟨fs, hr, hrun, hended, hRW⟩ := X28.leaveW hS2 (by rw [e28]; exact hk16) (v := none) (fun _ => rfl)
  refine ⟨_, _, pre0 _ ?_, hrun, hended, _, _, rfl, ?_, ⟨_, rfl⟩, hRW.2.1, hRW.2.2.1, hRW.2.2.2.mono (by decide) (by decide)⟩
  · show Steps p.tables e below (s₁.setTop (mkF m 0 #[.val (.ref t0), .val (.ref s0), .val .null, .unset, .unset, .unset, .unset, .unset] [])) _
    refine XS.aloadN X0.here hx rfl (hb hby d1_0) rfl rfl ?_
    refine st1 _ ?_
    show Steps p.tables e below (T1.setTop (mkF m 4 #[.val (.ref t0), .val (.ref s0), .val .null, .unset, .unset, .unset, .unset, .unset] [])) _
    refine XS.aloadN X1.here hx rfl (hb hby d1_4) rfl rfl ?_
    refine XS.aloadN X1.here hx rfl (hb hby d1_5) rfl rfl ?_
    refine st2 _ ?_
    show Steps p.tables e below (T2.setTop (mkF m 8 #[.val (.ref t0), .val (.ref s0), .val .null, .unset, .unset, .unset, .unset, .unset] [(.ref a2), (.ref s0), (.ref t0)])) _
    refine st8 _ ?_
    show Steps p.tables e below (T8.setTop (mkF m 11 #[.val (.ref t0), .val (.ref s0), .val .null, .unset, .unset, .unset, .unset, .unset] [(.ref s0), (.ref t0)])) _
    refine st9 _ ?_
    show Steps p.tables e below (T9.setTop (mkF m 14 #[.val (.ref t0), .val (.ref s0), .val .null, .unset, .unset, .unset, .unset, .unset] [(.ref s0), (.ref t0)])) _
    refine st10 _ ?_
    show Steps p.tables e below (T10.setTop (mkF m 17 #[.val (.ref t0), .val (.ref s0), .val .null, .unset, .unset, .unset, .unset, .unset] [])) _
    refine XS.aloadN X10.here hx rfl (hb hby d1_17) rfl rfl ?_
    refine XS.aloadN X10.here hx rfl (hb hby d1_18) rfl rfl ?_
    refine st16 _ ?_
    show Steps p.tables e below (T16.setTop (mkF m 22 #[.val (.ref t0), .val (.ref s0), .val .null, .unset, .unset, .unset, .unset, .unset] [])) _
    refine XS.aloadN X16.here hx rfl (hb hby d1_22) rfl rfl ?_
    refine XS.astoreN X16.here hx rfl (hb hby d1_23) rfl rfl (l' := #[.val (.ref t0), .val (.ref s0), .val .null, .val (.ref s0), .unset, .unset, .unset, .unset]) rfl ?_
    refine XS.aloadN X16.here hx rfl (hb hby d1_24) rfl rfl ?_
    refine X16.arraylength hx (by rw [e16]; exact Arq22.1) (State.isArrayOf_alike hZ2.alike Arq22.2.1) (g := (mkF m 25 #[.val (.ref t0), .val (.ref s0), .val .null, .val (.ref s0), .unset, .unset, .unset, .unset] [(.ref s0)])) rfl rfl (hb hby d1_25) _ ?_
    rw [len_of Sq22 Nq22]
    show Steps p.tables e below (T16.setTop (mkF m 26 #[.val (.ref t0), .val (.ref s0), .val .null, .val (.ref s0), .unset, .unset, .unset, .unset] [(.int nq)])) _
    refine XS.istore X16.here hx rfl (hb hby d1_26) rfl (l' := #[.val (.ref t0), .val (.ref s0), .val .null, .val (.ref s0), .val (.int nq), .unset, .unset, .unset]) rfl ?_
    refine XS.iconst X16.here hx rfl (hb hby d1_28) ?_
    show Steps p.tables e below (T16.setTop (mkF m 29 #[.val (.ref t0), .val (.ref s0), .val .null, .val (.ref s0), .val (.int nq), .unset, .unset, .unset] [(.int (0 : Int32))])) _
    refine XS.istore X16.here hx rfl (hb hby d1_29) rfl (l' := #[.val (.ref t0), .val (.ref s0), .val .null, .val (.ref s0), .val (.int nq), .val (.int (0 : Int32)), .unset, .unset]) rfl ?_
    refine XS.iload X16.here hx rfl (hb hby d1_31) rfl ?_
    refine XS.iload X16.here hx rfl (hb hby d1_33) rfl ?_
    refine XS.icmpNo X16.here hx rfl (hb hby d1_35) rfl (tlt hc35).2.1 ?_
    refine XS.aloadN X16.here hx rfl (hb hby d1_38) rfl rfl ?_
    refine XS.iload X16.here hx rfl (hb hby d1_39) rfl ?_
    show Steps p.tables e below (T16.setTop (mkF m 41 #[.val (.ref t0), .val (.ref s0), .val .null, .val (.ref s0), .val (.int nq), .val (.int (0 : Int32)), .unset, .unset] [(.int (0 : Int32)), (.ref s0)])) _
    refine X16.daload hx (j := (0 : Int32)) (v := (.double (0 : UInt64))) (by rw [e16]; exact Arq23.1) (State.isArrayOf_alike hZ2.alike Arq23.2.1) Arq23.2.2 (inb_of Sq23 hin41) (Has.at Hq23 (inb_of Sq23 hin41) rfl) (g := (mkF m 41 #[.val (.ref t0), .val (.ref s0), .val .null, .val (.ref s0), .val (.int nq), .val (.int (0 : Int32)), .unset, .unset] [(.int (0 : Int32)), (.ref s0)])) rfl rfl (hb hby d1_41) _ ?_
    show Steps p.tables e below (T16.setTop (mkF m 42 #[.val (.ref t0), .val (.ref s0), .val .null, .val (.ref s0), .val (.int nq), .val (.int (0 : Int32)), .unset, .unset] [(.double (0 : UInt64))])) _
    refine XS.dstore X16.here hx rfl (hb hby d1_42) rfl (l' := #[.val (.ref t0), .val (.ref s0), .val .null, .val (.ref s0), .val (.int nq), .val (.int (0 : Int32)), .val (.double (0 : UInt64)), .second]) rfl ?_
    refine XS.dload X16.here hx rfl (hb hby d1_44) rfl ?_
    refine st24 _ ?_
    show Steps p.tables e below (T24.setTop (mkF m 49 #[.val (.ref t0), .val (.ref s0), .val .null, .val (.ref s0), .val (.int nq), .val (.int (0 : Int32)), .val (.double (0 : UInt64)), .second] [(.double (0 : UInt64))])) _
    jvm_step X24.here [X24.here.top, hx, (hb hby d1_49), Value.category]
    show Steps p.tables e below (T24.setTop (mkF m 50 #[.val (.ref t0), .val (.ref s0), .val .null, .val (.ref s0), .val (.int nq), .val (.int (0 : Int32)), .val (.double (0 : UInt64)), .second] [])) _
    refine XS.iinc X24.here hx rfl (hb hby d1_50) rfl (l' := #[.val (.ref t0), .val (.ref s0), .val .null, .val (.ref s0), .val (.int nq), .val (.int ((0 : Int32) + (1 : Int32))), .val (.double (0 : UInt64)), .second]) rfl ?_
    show Steps p.tables e below (T24.setTop (mkF m 53 #[.val (.ref t0), .val (.ref s0), .val .null, .val (.ref s0), .val (.int nq), .val (.int ((0 : Int32) + (1 : Int32))), .val (.double (0 : UInt64)), .second] [])) _
    rw [show ((0 : Int32) + (1 : Int32)) = (1 : Int32) by decide]
    show Steps p.tables e below (T24.setTop (mkF m 53 #[.val (.ref t0), .val (.ref s0), .val .null, .val (.ref s0), .val (.int nq), .val (.int (1 : Int32)), .val (.double (0 : UInt64)), .second] [])) _
    refine XS.goto X24.here hx rfl (pc0 := 53) (pc' := 31) rfl (hb hby d1_53) (by decide) (by decide) ?_
    refine XS.iload X24.here hx rfl (hb hby d1_31) rfl ?_
    refine XS.iload X24.here hx rfl (hb hby d1_33) rfl ?_
    refine XS.icmpNo X24.here hx rfl (hb hby d1_35) rfl (tlt hc35_1).2.1 ?_
    refine XS.aloadN X24.here hx rfl (hb hby d1_38) rfl rfl ?_
    show Steps p.tables e below (T24.setTop (mkF m 39 #[.val (.ref t0), .val (.ref s0), .val .null, .val (.ref s0), .val (.int nq), .val (.int (1 : Int32)), .val (.double (0 : UInt64)), .second] [(.ref s0)])) _
    refine XS.iload X24.here hx rfl (hb hby d1_39) rfl ?_
    refine X24.daload hx (j := (1 : Int32)) (v := (.double (0 : UInt64))) (by rw [e24]; exact Arq25.1) (State.isArrayOf_alike hZ2.alike Arq25.2.1) Arq25.2.2 (inb_of Sq25 hin41_1) (Has.at Hq25 (inb_of Sq25 hin41_1) rfl) (g := (mkF m 41 #[.val (.ref t0), .val (.ref s0), .val .null, .val (.ref s0), .val (.int nq), .val (.int (1 : Int32)), .val (.double (0 : UInt64)), .second] [(.int (1 : Int32)), (.ref s0)])) rfl rfl (hb hby d1_41) _ ?_
    show Steps p.tables e below (T24.setTop (mkF m 42 #[.val (.ref t0), .val (.ref s0), .val .null, .val (.ref s0), .val (.int nq), .val (.int (1 : Int32)), .val (.double (0 : UInt64)), .second] [(.double (0 : UInt64))])) _
    refine XS.dstore X24.here hx rfl (hb hby d1_42) rfl (l' := #[.val (.ref t0), .val (.ref s0), .val .null, .val (.ref s0), .val (.int nq), .val (.int (1 : Int32)), .val (.double (0 : UInt64)), .second]) rfl ?_
    refine XS.dload X24.here hx rfl (hb hby d1_44) rfl ?_
    refine st26 _ ?_
    show Steps p.tables e below (T26.setTop (mkF m 49 #[.val (.ref t0), .val (.ref s0), .val .null, .val (.ref s0), .val (.int nq), .val (.int (1 : Int32)), .val (.double (0 : UInt64)), .second] [(.double (0 : UInt64))])) _
    jvm_step X26.here [X26.here.top, hx, (hb hby d1_49), Value.category]
    show Steps p.tables e below (T26.setTop (mkF m 50 #[.val (.ref t0), .val (.ref s0), .val .null, .val (.ref s0), .val (.int nq), .val (.int (1 : Int32)), .val (.double (0 : UInt64)), .second] [])) _
    refine XS.iinc X26.here hx rfl (hb hby d1_50) rfl (l' := #[.val (.ref t0), .val (.ref s0), .val .null, .val (.ref s0), .val (.int nq), .val (.int ((1 : Int32) + (1 : Int32))), .val (.double (0 : UInt64)), .second]) rfl ?_
    show Steps p.tables e below (T26.setTop (mkF m 53 #[.val (.ref t0), .val (.ref s0), .val .null, .val (.ref s0), .val (.int nq), .val (.int ((1 : Int32) + (1 : Int32))), .val (.double (0 : UInt64)), .second] [])) _
    rw [show ((1 : Int32) + (1 : Int32)) = (2 : Int32) by decide]
    show Steps p.tables e below (T26.setTop (mkF m 53 #[.val (.ref t0), .val (.ref s0), .val .null, .val (.ref s0), .val (.int nq), .val (.int (2 : Int32)), .val (.double (0 : UInt64)), .second] [])) _
    refine XS.goto X26.here hx rfl (pc0 := 53) (pc' := 31) rfl (hb hby d1_53) (by decide) (by decide) ?_
    refine XS.iload X26.here hx rfl (hb hby d1_31) rfl ?_
    refine XS.iload X26.here hx rfl (hb hby d1_33) rfl ?_
    refine XS.icmpNo X26.here hx rfl (hb hby d1_35) rfl (tlt hc35_2).2.1 ?_
    show Steps p.tables e below (T26.setTop (mkF m 38 #[.val (.ref t0), .val (.ref s0), .val .null, .val (.ref s0), .val (.int nq), .val (.int (2 : Int32)), .val (.double (0 : UInt64)), .second] [])) _
    refine XS.aloadN X26.here hx rfl (hb hby d1_38) rfl rfl ?_
    refine XS.iload X26.here hx rfl (hb hby d1_39) rfl ?_
    refine X26.daload hx (j := (2 : Int32)) (v := (.double (0 : UInt64))) (by rw [e26]; exact Arq27.1) (State.isArrayOf_alike hZ2.alike Arq27.2.1) Arq27.2.2 (inb_of Sq27 hin41_2) (Has.at Hq27 (inb_of Sq27 hin41_2) rfl) (g := (mkF m 41 #[.val (.ref t0), .val (.ref s0), .val .null, .val (.ref s0), .val (.int nq), .val (.int (2 : Int32)), .val (.double (0 : UInt64)), .second] [(.int (2 : Int32)), (.ref s0)])) rfl rfl (hb hby d1_41) _ ?_
    show Steps p.tables e below (T26.setTop (mkF m 42 #[.val (.ref t0), .val (.ref s0), .val .null, .val (.ref s0), .val (.int nq), .val (.int (2 : Int32)), .val (.double (0 : UInt64)), .second] [(.double (0 : UInt64))])) _
    refine XS.dstore X26.here hx rfl (hb hby d1_42) rfl (l' := #[.val (.ref t0), .val (.ref s0), .val .null, .val (.ref s0), .val (.int nq), .val (.int (2 : Int32)), .val (.double (0 : UInt64)), .second]) rfl ?_
    refine XS.dload X26.here hx rfl (hb hby d1_44) rfl ?_
    refine st28 _ ?_
    show Steps p.tables e below (T28.setTop (mkF m 49 #[.val (.ref t0), .val (.ref s0), .val .null, .val (.ref s0), .val (.int nq), .val (.int (2 : Int32)), .val (.double (0 : UInt64)), .second] [(.double (0 : UInt64))])) _
    jvm_step X28.here [X28.here.top, hx, (hb hby d1_49), Value.category]
    show Steps p.tables e below (T28.setTop (mkF m 50 #[.val (.ref t0), .val (.ref s0), .val .null, .val (.ref s0), .val (.int nq), .val (.int (2 : Int32)), .val (.double (0 : UInt64)), .second] [])) _
    refine XS.iinc X28.here hx rfl (hb hby d1_50) rfl (l' := #[.val (.ref t0), .val (.ref s0), .val .null, .val (.ref s0), .val (.int nq), .val (.int ((2 : Int32) + (1 : Int32))), .val (.double (0 : UInt64)), .second]) rfl ?_
    show Steps p.tables e below (T28.setTop (mkF m 53 #[.val (.ref t0), .val (.ref s0), .val .null, .val (.ref s0), .val (.int nq), .val (.int ((2 : Int32) + (1 : Int32))), .val (.double (0 : UInt64)), .second] [])) _
    rw [show ((2 : Int32) + (1 : Int32)) = (3 : Int32) by decide]
    show Steps p.tables e below (T28.setTop (mkF m 53 #[.val (.ref t0), .val (.ref s0), .val .null, .val (.ref s0), .val (.int nq), .val (.int (3 : Int32)), .val (.double (0 : UInt64)), .second] [])) _
    refine XS.goto X28.here hx rfl (pc0 := 53) (pc' := 31) rfl (hb hby d1_53) (by decide) (by decide) ?_
    refine XS.iload X28.here hx rfl (hb hby d1_31) rfl ?_
    refine XS.iload X28.here hx rfl (hb hby d1_33) rfl ?_
    show Steps p.tables e below (T28.setTop (mkF m 35 #[.val (.ref t0), .val (.ref s0), .val .null, .val (.ref s0), .val (.int nq), .val (.int (3 : Int32)), .val (.double (0 : UInt64)), .second] [(.int nq), (.int (3 : Int32))])) _
    refine XS.icmpYes X28.here hx rfl (pc0 := 35) (pc' := 56) rfl (hb hby d1_35) rfl (flt hc35_3).2.1 (by decide) (by decide) ?_
    refine XS.aloadN X28.here hx rfl (hb hby d1_56) rfl rfl ?_
    refine XS.ifnullYes X28.here hx rfl (pc0 := 57) (pc' := 94) rfl (hb hby d1_57) rfl (by decide) (by decide) ?_
    exact X28.returnOut hx Bd.returns (hb hby d1_94) hr
  · show Q_ini3n Z t0 s0 nq ka h0 n0 _ T28.heap _
    rw [e28]
    exact ⟨rfl, N28, K16, f17, f18, f21⟩
def Q_iniN (Z : State) (t0 : Addr) (s0 : Addr) (nq : Int32) (ka : ClassId) (h0 : Heap) (n0 : Nat) (v : Option Value) (h : Heap) (L : List Loc) : Prop := v = none ∧ Fr n0 L ∧ Keep h0 h [t0] ∧ Exa Z h t0 "com/example/hedge/hedge/RewardStructure" ∧ Fld Z h t0 "com/example/hedge/hedge/RewardStructure" "state" "[D" (.ref s0) ∧ Fld Z h t0 "com/example/hedge/hedge/RewardStructure" "transition" "[D" .null
theorem iniN (l : Launch) (Z : State) (a0 : Array Value) (hw : ∀ d ∈ tables_1, d.before a0 Z = true) (ws : List Jvm.Cond) (t0 : Addr) (s0 : Addr) (nq : Int32) (ka : ClassId) (h0 : Heap) (n0 : Nat) (Z0 : n0 ≤ h0.size) (E_t0 : Exa Z h0 t0 "com/example/hedge/hedge/RewardStructure") (g_t0 : n0 ≤ t0) (F_state_t0 : Fld Z h0 t0 "com/example/hedge/hedge/RewardStructure" "state" "[D" .null) (F_transition_t0 : Fld Z h0 t0 "com/example/hedge/hedge/RewardStructure" "transition" "[D" .null) (E_s0 : Exa Z h0 s0 "[D") (V_s0 : Arv Z h0 s0 ka .double nq [] (.double (0 : UInt64))) (ne_t0_s0 : t0 ≠ s0) (hcase : ((¬ ((0 : Int32) < nq))) ∨ (((0 : Int32) < nq) ∧ (¬ (0 : Int32) < 0 ∧ (0 : Int32) < nq) ∧ (¬ ((1 : Int32) < nq))) ∨ (((0 : Int32) < nq) ∧ (¬ (0 : Int32) < 0 ∧ (0 : Int32) < nq) ∧ ((1 : Int32) < nq) ∧ (¬ (1 : Int32) < 0 ∧ (1 : Int32) < nq) ∧ (¬ ((2 : Int32) < nq))) ∨ (((0 : Int32) < nq) ∧ (¬ (0 : Int32) < 0 ∧ (0 : Int32) < nq) ∧ ((1 : Int32) < nq) ∧ (¬ (1 : Int32) < 0 ∧ (1 : Int32) < nq) ∧ ((2 : Int32) < nq) ∧ (¬ (2 : Int32) < 0 ∧ (2 : Int32) < nq) ∧ (¬ ((3 : Int32) < nq)))) :
    MetFree l (⟨"com/example/hedge/hedge/RewardStructure", "<init>", "([D[D)V"⟩ : MethodName) (head1 (Jvm.Cond.code (⟨"com/example/hedge/hedge/RewardStructure", "<init>", "([D[D)V"⟩ : MethodName) prog_30_method_1_code 8 none :: ws) ({ frames := 1, cells := 2, slots := 24, locals := 14 } : Room)) (fun a U => a = #[(.ref t0), (.ref s0), .null] ∧ Z.Warmed39 U.vm ∧ U.heap = h0) (fun _ _ _ _ _ => True) (fun _ U o U' => ∃ v L, o = .returned v ∧ Q_iniN Z t0 s0 nq ka h0 n0 v U'.heap L ∧ ReturnedEndW U o U' L ({ frames := 1, cells := 2, slots := 24, locals := 14 } : Room).cells ({ frames := 1, cells := 2, slots := 24, locals := 14 } : Room).slots) := by
  rcases hcase with ⟨h_hc35⟩ | ⟨h_hc35, h_hin41, h_hc35_1⟩ | ⟨h_hc35, h_hin41, h_hc35_1, h_hin41_1, h_hc35_2⟩ | ⟨h_hc35, h_hin41, h_hc35_1, h_hin41_1, h_hc35_2, h_hin41_2, h_hc35_3⟩
  · exact ini0n l Z a0 hw ws t0 s0 nq ka h0 n0 Z0 (E_t0 := E_t0) (g_t0 := g_t0) (F_state_t0 := F_state_t0) (F_transition_t0 := F_transition_t0) (E_s0 := E_s0) (V_s0 := V_s0) (ne_t0_s0 := ne_t0_s0) (hc35 := h_hc35)
  · exact ini1n l Z a0 hw ws t0 s0 nq ka h0 n0 Z0 (E_t0 := E_t0) (g_t0 := g_t0) (F_state_t0 := F_state_t0) (F_transition_t0 := F_transition_t0) (E_s0 := E_s0) (V_s0 := V_s0) (ne_t0_s0 := ne_t0_s0) (hc35 := h_hc35) (hin41 := h_hin41) (hc35_1 := h_hc35_1)
  · exact ini2n l Z a0 hw ws t0 s0 nq ka h0 n0 Z0 (E_t0 := E_t0) (g_t0 := g_t0) (F_state_t0 := F_state_t0) (F_transition_t0 := F_transition_t0) (E_s0 := E_s0) (V_s0 := V_s0) (ne_t0_s0 := ne_t0_s0) (hc35 := h_hc35) (hin41 := h_hin41) (hc35_1 := h_hc35_1) (hin41_1 := h_hin41_1) (hc35_2 := h_hc35_2)
  · exact ini3n l Z a0 hw ws t0 s0 nq ka h0 n0 Z0 (E_t0 := E_t0) (g_t0 := g_t0) (F_state_t0 := F_state_t0) (F_transition_t0 := F_transition_t0) (E_s0 := E_s0) (V_s0 := V_s0) (ne_t0_s0 := ne_t0_s0) (hc35 := h_hc35) (hin41 := h_hin41) (hc35_1 := h_hc35_1) (hin41_1 := h_hin41_1) (hc35_2 := h_hc35_2) (hin41_2 := h_hin41_2) (hc35_3 := h_hc35_3)
theorem d1_60 : decode prog_30_method_1_code 60 = .ok (.aload_n 2, 1) := by decide +kernel
theorem d1_61 : decode prog_30_method_1_code 61 = .ok (.astore_n 3, 1) := by decide +kernel
theorem d1_62 : decode prog_30_method_1_code 62 = .ok (.aload_n 3, 1) := by decide +kernel
theorem d1_63 : decode prog_30_method_1_code 63 = .ok (.arraylength, 1) := by decide +kernel
theorem d1_64 : decode prog_30_method_1_code 64 = .ok (.istore 4, 2) := by decide +kernel
theorem d1_66 : decode prog_30_method_1_code 66 = .ok (.iconst 0, 1) := by decide +kernel
theorem d1_67 : decode prog_30_method_1_code 67 = .ok (.istore 5, 2) := by decide +kernel
theorem d1_69 : decode prog_30_method_1_code 69 = .ok (.iload 5, 2) := by decide +kernel
theorem d1_71 : decode prog_30_method_1_code 71 = .ok (.iload 4, 2) := by decide +kernel
theorem d1_73 : decode prog_30_method_1_code 73 = .ok (.if_icmp .ge 21, 3) := by decide +kernel
theorem ef_1_RRR (m : MethodId) (x0 : Addr) (x1 : Addr) (x2 : Addr) : entryFrame m #[(.ref x0), (.ref x1), (.ref x2)] 8 = mkF m 0 #[.val (.ref x0), .val (.ref x1), .val (.ref x2), .unset, .unset, .unset, .unset, .unset] [] := by first | (simp [entryFrame, mkF, argsToLocals, Value.category]; done) | rfl
def Q_ini00 (Z : State) (t0 : Addr) (s0 : Addr) (s1 : Addr) (nq : Int32) (ka : ClassId) (mq : Int32) (kb : ClassId) (h0 : Heap) (n0 : Nat) (v : Option Value) (h : Heap) (L : List Loc) : Prop := v = none ∧ Fr n0 L ∧ Keep h0 h [t0] ∧ Exa Z h t0 "com/example/hedge/hedge/RewardStructure" ∧ Fld Z h t0 "com/example/hedge/hedge/RewardStructure" "state" "[D" (.ref s0) ∧ Fld Z h t0 "com/example/hedge/hedge/RewardStructure" "transition" "[D" (.ref s1)
set_option maxRecDepth 65536 in
set_option maxHeartbeats 40000000 in
theorem ini00 (l : Launch) (Z : State) (a0 : Array Value) (hw : ∀ d ∈ tables_1, d.before a0 Z = true) (ws : List Jvm.Cond) (t0 : Addr) (s0 : Addr) (s1 : Addr) (nq : Int32) (ka : ClassId) (mq : Int32) (kb : ClassId) (h0 : Heap) (n0 : Nat) (Z0 : n0 ≤ h0.size) (E_t0 : Exa Z h0 t0 "com/example/hedge/hedge/RewardStructure") (g_t0 : n0 ≤ t0) (F_state_t0 : Fld Z h0 t0 "com/example/hedge/hedge/RewardStructure" "state" "[D" .null) (F_transition_t0 : Fld Z h0 t0 "com/example/hedge/hedge/RewardStructure" "transition" "[D" .null) (E_s0 : Exa Z h0 s0 "[D") (V_s0 : Arv Z h0 s0 ka .double nq [] (.double (0 : UInt64))) (V_s1 : Arv Z h0 s1 kb .double mq [] (.double (0 : UInt64))) (ne_t0_s0 : t0 ≠ s0) (ne_t0_s1 : t0 ≠ s1) (hc35 : ¬ ((0 : Int32) < nq)) (hc73 : ¬ ((0 : Int32) < mq)) :
    MetFree l (⟨"com/example/hedge/hedge/RewardStructure", "<init>", "([D[D)V"⟩ : MethodName) (head1 (Jvm.Cond.code (⟨"com/example/hedge/hedge/RewardStructure", "<init>", "([D[D)V"⟩ : MethodName) prog_30_method_1_code 8 none :: ws) ({ frames := 1, cells := 2, slots := 24, locals := 14 } : Room)) (fun a U => a = #[(.ref t0), (.ref s0), (.ref s1)] ∧ Z.Warmed39 U.vm ∧ U.heap = h0) (fun _ _ _ _ _ => True) (fun _ U o U' => ∃ v L, o = .returned v ∧ Q_ini00 Z t0 s0 s1 nq ka mq kb h0 n0 v U'.heap L ∧ ReturnedEndW U o U' L ({ frames := 1, cells := 2, slots := 24, locals := 14 } : Room).cells ({ frames := 1, cells := 2, slots := 24, locals := 14 } : Room).slots) := by
  refine MetFree.of_bodySF (plainFor_of_name pn_com_example_hedge_hedge_RewardStructure) hisR ?_
  intro p e s m args below meth c s₁ Bd hml0 hP hK
  obtain ⟨rfl, hZ, hh⟩ := hP
  have hx := Bd.exec
  have hby := Bd.bytes
  have hml : c.maxLocals = 8 := hml0
  have hown : s.vm.findClass "com/example/hedge/hedge/RewardStructure" = some m.cls := findClass_of_methodNamed Bd.named
  have hnm := (name_of_methodNamed Bd.named Bd.method).1
  have X0 : Stand p l e ({ frames := 1, cells := 2, slots := 24, locals := 14 } : Room) s m #[(.ref t0), (.ref s0), (.ref s1)] below meth c s₁ [] 0 0 := Stand.of_body Bd
  have e0 : s₁.heap = h0 := by rw [← hh, Bd.state]; rfl
  have N0 := Fr.nil n0
  have pre0 : ∀ t, Steps p.tables e below (s₁.setTop (mkF m 0 #[.val (.ref t0), .val (.ref s0), .val (.ref s1), .unset, .unset, .unset, .unset, .unset] [])) t → Steps p.tables e below (s₁.setTop (entryFrame m #[(.ref t0), (.ref s0), (.ref s1)] 8)) t := fun t k => castTop (ef_1_RRR m t0 s0 s1) k
  obtain ⟨vm0, k00, X0, hS0, hk0, hZ0, hown0⟩ := own_W0 X0 e0 hZ hown
  obtain ⟨T1, X1, e1, st1⟩ := initO X0 hx hZ0 hown0 (hw _ (List.mem_of_getElem? (i := 7) rfl)) (hw _ (List.mem_of_getElem? (i := 8) rfl)) (hw _ (List.mem_of_getElem? (i := 9) rfl)) e0 (g := (mkF m 1 #[.val (.ref t0), .val (.ref s0), .val (.ref s1), .unset, .unset, .unset, .unset, .unset] [(.ref t0)])) rfl (by rw [hml]; rfl) rfl (hb hby d1_1) (by decide) (W := 0) (by show 2 * 0 + _ ≤ _; exact Nat.le_of_eq rfl) (by decide)
  obtain ⟨a2, T2, h2, kq2, X2, e2, E2, hS2, hkq2, hZ2, hown2, st2⟩ := ldcS X1 hx hZ0 hown0 (hw _ (List.mem_of_getElem? (i := 10) rfl)) (own_satoms hw) e1 hS0 hk0 (g := (mkF m 6 #[.val (.ref t0), .val (.ref s0), .val (.ref s1), .unset, .unset, .unset, .unset, .unset] [(.ref s0), (.ref t0)])) rfl (hb hby d1_6) (n := 20) (by decide) (by decide) (by decide) (by decide)
  have f3 := E_t0.ext E2
  have f4 := F_state_t0.ext E2
  have f5 := F_transition_t0.ext E2
  have f6 := E_s0.ext E2
  have f7 := V_s0.ext E2
  have f8 := V_s1.ext E2
  have K2 : Keep h0 h2 [t0] := (Keep.refl h0 [t0]).ext E2
  have Zs2 := Nat.le_trans Z0 E2.1
  have hk2 := Nat.le_trans hk0 E2.1
  obtain ⟨_, _, ⟨T9, L9, k9, n9⟩, -, X9, ⟨Lc9, hQ9, lq9, yq9, zq9⟩, st9⟩ := Jvm.LawKit.callS X2 hx (y := (⟨"java/util/Objects", "requireNonNull", "(Ljava/lang/Object;Ljava/lang/String;)Ljava/lang/Object;"⟩ : MethodName)) hown2 (mvT hZ2 (hw _ (List.mem_of_getElem? (i := 18) rfl))) (mvT hZ2 (hw _ (List.mem_of_getElem? (i := 19) rfl))) (mvT hZ2 (hw _ (List.mem_of_getElem? (i := 20) rfl))) (mvT hZ2 (hw _ (List.mem_of_getElem? (i := 21) rfl))) (by decide) (backOf (W := 1) (rn l Z a0 hw [] s0 a2 h2 n0 Zs2 ) hZ2 (hw _ (List.mem_of_getElem? (i := 21) rfl)) (hw _ (List.mem_of_getElem? (i := 20) rfl)) (by decide) (by decide)) (g := (mkF m 8 #[.val (.ref t0), .val (.ref s0), .val (.ref s1), .unset, .unset, .unset, .unset, .unset] [(.ref a2), (.ref s0), (.ref t0)])) rfl (by rw [hml]; rfl) (argsL := [(.ref s0), (.ref a2)]) (rest := [(.ref t0)]) (lenOf pd_0 rfl) rfl (by show 2 * 0 + _ ≤ _; exact Nat.le_of_eq rfl) (hb hby d1_8) (fun _ _ => ⟨rfl, e2, (by decide : 2 + 0 ≤ _), (by decide : 24 + 0 ≤ _)⟩)
  dsimp only [Pt.U, Pt.locs, Pt.cells, Pt.slots] at X9 lq9 yq9 zq9 st9 hQ9
  rw [lq9, yq9, zq9] at X9
  obtain ⟨rfl, N9q, eh9⟩ := hQ9
  have N9 := Fr.app N0 N9q
  have e9 : T9.heap = h2 := eh9
  obtain ⟨T10, X10, e10, st10⟩ := castY X9 hx hZ2 hown2 (hw _ (List.mem_of_getElem? (i := 22) rfl)) e9 (Ins.self f6) (g := (mkF m 11 #[.val (.ref t0), .val (.ref s0), .val (.ref s1), .unset, .unset, .unset, .unset, .unset] [(.ref s0), (.ref t0)])) rfl rfl (hb hby d1_11)
  obtain ⟨T11, h11, X11, e11, W11, st11⟩ := putF X10 hx hZ2 hown2 (host := "") (Or.inl (hw _ (List.mem_of_getElem? (i := 24) rfl))) Via.refl e10 f4 f3 (Or.inr ⟨(hw _ (List.mem_of_getElem? (i := 25) rfl)), rfl, hnm⟩) (hw _ (List.mem_of_getElem? (i := 2) rfl)) (ty := (.array .double)) (by decide) rfl rfl (g := (mkF m 14 #[.val (.ref t0), .val (.ref s0), .val (.ref s1), .unset, .unset, .unset, .unset, .unset] [(.ref s0), (.ref t0)])) rfl rfl (hb hby d1_14)
  have f12 := f3.wr W11
  have f13 := f5.other W11 (Or.inr (so_RewardStructure_transition_state hw))
  have f14 := f6.wr W11
  have f15 := f7.other W11 (Ne.symm ne_t0_s0)
  have f16 := f8.other W11 (Ne.symm ne_t0_s1)
  have K11 : Keep h0 h11 [t0] := K2.wr W11 (Or.inl (List.mem_of_getElem? (i := 0) rfl))
  have Zs11 := Nat.le_trans Zs2 (Keep.of_wr W11).1
  have hk11 := Nat.le_trans hkq2 (Keep.of_wr W11).1
  have N11 := Fr.snoc X11 N9 g_t0
  have f17 : Fld Z h11 t0 "com/example/hedge/hedge/RewardStructure" "state" "[D" (.ref s0) := f4.same W11
  obtain ⟨T18, h18, X18, e18, W18, st18⟩ := putF X11 hx hZ2 hown2 (host := "") (Or.inl (hw _ (List.mem_of_getElem? (i := 26) rfl))) Via.refl e11 f13 f12 (Or.inr ⟨(hw _ (List.mem_of_getElem? (i := 27) rfl)), rfl, hnm⟩) (hw _ (List.mem_of_getElem? (i := 2) rfl)) (ty := (.array .double)) (by decide) rfl rfl (g := (mkF m 19 #[.val (.ref t0), .val (.ref s0), .val (.ref s1), .unset, .unset, .unset, .unset, .unset] [(.ref s1), (.ref t0)])) rfl rfl (hb hby d1_19)
  have f19 := f12.wr W18
  have f20 := f17.other W18 (Or.inr (so_RewardStructure_state_transition hw))
  have f21 := f14.wr W18
  have f22 := f15.other W18 (Ne.symm ne_t0_s0)
  have f23 := f16.other W18 (Ne.symm ne_t0_s1)
  have K18 : Keep h0 h18 [t0] := K11.wr W18 (Or.inl (List.mem_of_getElem? (i := 0) rfl))
  have Zs18 := Nat.le_trans Zs11 (Keep.of_wr W18).1
  have hk18 := Nat.le_trans hk11 (Keep.of_wr W18).1
  have N18 := Fr.snoc X18 N11 g_t0
  have f24 : Fld Z h18 t0 "com/example/hedge/hedge/RewardStructure" "transition" "[D" (.ref s1) := f13.same W18
  obtain ⟨cq25, Arq25, -, Sq25, Nq25, -, -⟩ := id f22
  obtain ⟨cq26, Arq26, -, Sq26, Nq26, -, -⟩ := id f23
  obtain ⟨fs, hr, hrun, hended, hRW⟩ := X18.leaveW hS2 (by rw [e18]; exact hk18) (v := none) (fun _ => rfl)
  refine ⟨_, _, pre0 _ ?_, hrun, hended, _, _, rfl, ?_, ⟨_, rfl⟩, hRW.2.1, hRW.2.2.1, hRW.2.2.2.mono (by decide) (by decide)⟩
  · show Steps p.tables e below (s₁.setTop (mkF m 0 #[.val (.ref t0), .val (.ref s0), .val (.ref s1), .unset, .unset, .unset, .unset, .unset] [])) _
    refine XS.aloadN X0.here hx rfl (hb hby d1_0) rfl rfl ?_
    refine st1 _ ?_
    show Steps p.tables e below (T1.setTop (mkF m 4 #[.val (.ref t0), .val (.ref s0), .val (.ref s1), .unset, .unset, .unset, .unset, .unset] [])) _
    refine XS.aloadN X1.here hx rfl (hb hby d1_4) rfl rfl ?_
    refine XS.aloadN X1.here hx rfl (hb hby d1_5) rfl rfl ?_
    refine st2 _ ?_
    show Steps p.tables e below (T2.setTop (mkF m 8 #[.val (.ref t0), .val (.ref s0), .val (.ref s1), .unset, .unset, .unset, .unset, .unset] [(.ref a2), (.ref s0), (.ref t0)])) _
    refine st9 _ ?_
    show Steps p.tables e below (T9.setTop (mkF m 11 #[.val (.ref t0), .val (.ref s0), .val (.ref s1), .unset, .unset, .unset, .unset, .unset] [(.ref s0), (.ref t0)])) _
    refine st10 _ ?_
    show Steps p.tables e below (T10.setTop (mkF m 14 #[.val (.ref t0), .val (.ref s0), .val (.ref s1), .unset, .unset, .unset, .unset, .unset] [(.ref s0), (.ref t0)])) _
    refine st11 _ ?_
    show Steps p.tables e below (T11.setTop (mkF m 17 #[.val (.ref t0), .val (.ref s0), .val (.ref s1), .unset, .unset, .unset, .unset, .unset] [])) _
    refine XS.aloadN X11.here hx rfl (hb hby d1_17) rfl rfl ?_
    refine XS.aloadN X11.here hx rfl (hb hby d1_18) rfl rfl ?_
    refine st18 _ ?_
    show Steps p.tables e below (T18.setTop (mkF m 22 #[.val (.ref t0), .val (.ref s0), .val (.ref s1), .unset, .unset, .unset, .unset, .unset] [])) _
    refine XS.aloadN X18.here hx rfl (hb hby d1_22) rfl rfl ?_
    refine XS.astoreN X18.here hx rfl (hb hby d1_23) rfl rfl (l' := #[.val (.ref t0), .val (.ref s0), .val (.ref s1), .val (.ref s0), .unset, .unset, .unset, .unset]) rfl ?_
    refine XS.aloadN X18.here hx rfl (hb hby d1_24) rfl rfl ?_
    refine X18.arraylength hx (by rw [e18]; exact Arq25.1) (State.isArrayOf_alike hZ2.alike Arq25.2.1) (g := (mkF m 25 #[.val (.ref t0), .val (.ref s0), .val (.ref s1), .val (.ref s0), .unset, .unset, .unset, .unset] [(.ref s0)])) rfl rfl (hb hby d1_25) _ ?_
    rw [len_of Sq25 Nq25]
    show Steps p.tables e below (T18.setTop (mkF m 26 #[.val (.ref t0), .val (.ref s0), .val (.ref s1), .val (.ref s0), .unset, .unset, .unset, .unset] [(.int nq)])) _
    refine XS.istore X18.here hx rfl (hb hby d1_26) rfl (l' := #[.val (.ref t0), .val (.ref s0), .val (.ref s1), .val (.ref s0), .val (.int nq), .unset, .unset, .unset]) rfl ?_
    refine XS.iconst X18.here hx rfl (hb hby d1_28) ?_
    show Steps p.tables e below (T18.setTop (mkF m 29 #[.val (.ref t0), .val (.ref s0), .val (.ref s1), .val (.ref s0), .val (.int nq), .unset, .unset, .unset] [(.int (0 : Int32))])) _
    refine XS.istore X18.here hx rfl (hb hby d1_29) rfl (l' := #[.val (.ref t0), .val (.ref s0), .val (.ref s1), .val (.ref s0), .val (.int nq), .val (.int (0 : Int32)), .unset, .unset]) rfl ?_
    refine XS.iload X18.here hx rfl (hb hby d1_31) rfl ?_
    refine XS.iload X18.here hx rfl (hb hby d1_33) rfl ?_
    refine XS.icmpYes X18.here hx rfl (pc0 := 35) (pc' := 56) rfl (hb hby d1_35) rfl (flt hc35).2.1 (by decide) (by decide) ?_
    refine XS.aloadN X18.here hx rfl (hb hby d1_56) rfl rfl ?_
    refine XS.ifnullNo X18.here hx rfl (hb hby d1_57) rfl ?_
    show Steps p.tables e below (T18.setTop (mkF m 60 #[.val (.ref t0), .val (.ref s0), .val (.ref s1), .val (.ref s0), .val (.int nq), .val (.int (0 : Int32)), .unset, .unset] [])) _
    refine XS.aloadN X18.here hx rfl (hb hby d1_60) rfl rfl ?_
    refine XS.astoreN X18.here hx rfl (hb hby d1_61) rfl rfl (l' := #[.val (.ref t0), .val (.ref s0), .val (.ref s1), .val (.ref s1), .val (.int nq), .val (.int (0 : Int32)), .unset, .unset]) rfl ?_
    refine XS.aloadN X18.here hx rfl (hb hby d1_62) rfl rfl ?_
    refine X18.arraylength hx (by rw [e18]; exact Arq26.1) (State.isArrayOf_alike hZ2.alike Arq26.2.1) (g := (mkF m 63 #[.val (.ref t0), .val (.ref s0), .val (.ref s1), .val (.ref s1), .val (.int nq), .val (.int (0 : Int32)), .unset, .unset] [(.ref s1)])) rfl rfl (hb hby d1_63) _ ?_
    rw [len_of Sq26 Nq26]
    show Steps p.tables e below (T18.setTop (mkF m 64 #[.val (.ref t0), .val (.ref s0), .val (.ref s1), .val (.ref s1), .val (.int nq), .val (.int (0 : Int32)), .unset, .unset] [(.int mq)])) _
    refine XS.istore X18.here hx rfl (hb hby d1_64) rfl (l' := #[.val (.ref t0), .val (.ref s0), .val (.ref s1), .val (.ref s1), .val (.int mq), .val (.int (0 : Int32)), .unset, .unset]) rfl ?_
    refine XS.iconst X18.here hx rfl (hb hby d1_66) ?_
    show Steps p.tables e below (T18.setTop (mkF m 67 #[.val (.ref t0), .val (.ref s0), .val (.ref s1), .val (.ref s1), .val (.int mq), .val (.int (0 : Int32)), .unset, .unset] [(.int (0 : Int32))])) _
    refine XS.istore X18.here hx rfl (hb hby d1_67) rfl (l' := #[.val (.ref t0), .val (.ref s0), .val (.ref s1), .val (.ref s1), .val (.int mq), .val (.int (0 : Int32)), .unset, .unset]) rfl ?_
    refine XS.iload X18.here hx rfl (hb hby d1_69) rfl ?_
    refine XS.iload X18.here hx rfl (hb hby d1_71) rfl ?_
    refine XS.icmpYes X18.here hx rfl (pc0 := 73) (pc' := 94) rfl (hb hby d1_73) rfl (flt hc73).2.1 (by decide) (by decide) ?_
    exact X18.returnOut hx Bd.returns (hb hby d1_94) hr
  · show Q_ini00 Z t0 s0 s1 nq ka mq kb h0 n0 _ T18.heap _
    rw [e18]
    exact ⟨rfl, N18, K18, f19, f20, f24⟩
theorem d1_76 : decode prog_30_method_1_code 76 = .ok (.aload_n 3, 1) := by decide +kernel
theorem d1_77 : decode prog_30_method_1_code 77 = .ok (.iload 5, 2) := by decide +kernel
theorem d1_79 : decode prog_30_method_1_code 79 = .ok (.daload, 1) := by decide +kernel
theorem d1_80 : decode prog_30_method_1_code 80 = .ok (.dstore 6, 2) := by decide +kernel
theorem d1_82 : decode prog_30_method_1_code 82 = .ok (.dload 6, 2) := by decide +kernel
theorem d1_84 : decode prog_30_method_1_code 84 = .ok (.invokestatic 24, 3) := by decide +kernel
theorem d1_87 : decode prog_30_method_1_code 87 = .ok (.pop2, 1) := by decide +kernel
theorem d1_88 : decode prog_30_method_1_code 88 = .ok (.iinc 5 1, 3) := by decide +kernel
theorem d1_91 : decode prog_30_method_1_code 91 = .ok (.goto (-22), 3) := by decide +kernel
def Q_ini01 (Z : State) (t0 : Addr) (s0 : Addr) (s1 : Addr) (nq : Int32) (ka : ClassId) (mq : Int32) (kb : ClassId) (h0 : Heap) (n0 : Nat) (v : Option Value) (h : Heap) (L : List Loc) : Prop := v = none ∧ Fr n0 L ∧ Keep h0 h [t0] ∧ Exa Z h t0 "com/example/hedge/hedge/RewardStructure" ∧ Fld Z h t0 "com/example/hedge/hedge/RewardStructure" "state" "[D" (.ref s0) ∧ Fld Z h t0 "com/example/hedge/hedge/RewardStructure" "transition" "[D" (.ref s1)
set_option maxRecDepth 65536 in
set_option maxHeartbeats 40000000 in
theorem ini01 (l : Launch) (Z : State) (a0 : Array Value) (hw : ∀ d ∈ tables_1, d.before a0 Z = true) (ws : List Jvm.Cond) (t0 : Addr) (s0 : Addr) (s1 : Addr) (nq : Int32) (ka : ClassId) (mq : Int32) (kb : ClassId) (h0 : Heap) (n0 : Nat) (Z0 : n0 ≤ h0.size) (E_t0 : Exa Z h0 t0 "com/example/hedge/hedge/RewardStructure") (g_t0 : n0 ≤ t0) (F_state_t0 : Fld Z h0 t0 "com/example/hedge/hedge/RewardStructure" "state" "[D" .null) (F_transition_t0 : Fld Z h0 t0 "com/example/hedge/hedge/RewardStructure" "transition" "[D" .null) (E_s0 : Exa Z h0 s0 "[D") (V_s0 : Arv Z h0 s0 ka .double nq [] (.double (0 : UInt64))) (V_s1 : Arv Z h0 s1 kb .double mq [] (.double (0 : UInt64))) (ne_t0_s0 : t0 ≠ s0) (ne_t0_s1 : t0 ≠ s1) (hc35 : ¬ ((0 : Int32) < nq)) (hc73 : (0 : Int32) < mq) (hin79 : ¬ (0 : Int32) < 0 ∧ (0 : Int32) < mq) (hc73_1 : ¬ ((1 : Int32) < mq)) :
    MetFree l (⟨"com/example/hedge/hedge/RewardStructure", "<init>", "([D[D)V"⟩ : MethodName) (head1 (Jvm.Cond.code (⟨"com/example/hedge/hedge/RewardStructure", "<init>", "([D[D)V"⟩ : MethodName) prog_30_method_1_code 8 none :: ws) ({ frames := 1, cells := 2, slots := 24, locals := 14 } : Room)) (fun a U => a = #[(.ref t0), (.ref s0), (.ref s1)] ∧ Z.Warmed39 U.vm ∧ U.heap = h0) (fun _ _ _ _ _ => True) (fun _ U o U' => ∃ v L, o = .returned v ∧ Q_ini01 Z t0 s0 s1 nq ka mq kb h0 n0 v U'.heap L ∧ ReturnedEndW U o U' L ({ frames := 1, cells := 2, slots := 24, locals := 14 } : Room).cells ({ frames := 1, cells := 2, slots := 24, locals := 14 } : Room).slots) := by
  refine MetFree.of_bodySF (plainFor_of_name pn_com_example_hedge_hedge_RewardStructure) hisR ?_
  intro p e s m args below meth c s₁ Bd hml0 hP hK
  obtain ⟨rfl, hZ, hh⟩ := hP
  have hx := Bd.exec
  have hby := Bd.bytes
  have hml : c.maxLocals = 8 := hml0
  have hown : s.vm.findClass "com/example/hedge/hedge/RewardStructure" = some m.cls := findClass_of_methodNamed Bd.named
  have hnm := (name_of_methodNamed Bd.named Bd.method).1
  have X0 : Stand p l e ({ frames := 1, cells := 2, slots := 24, locals := 14 } : Room) s m #[(.ref t0), (.ref s0), (.ref s1)] below meth c s₁ [] 0 0 := Stand.of_body Bd
  have e0 : s₁.heap = h0 := by rw [← hh, Bd.state]; rfl
  have N0 := Fr.nil n0
  have pre0 : ∀ t, Steps p.tables e below (s₁.setTop (mkF m 0 #[.val (.ref t0), .val (.ref s0), .val (.ref s1), .unset, .unset, .unset, .unset, .unset] [])) t → Steps p.tables e below (s₁.setTop (entryFrame m #[(.ref t0), (.ref s0), (.ref s1)] 8)) t := fun t k => castTop (ef_1_RRR m t0 s0 s1) k
  obtain ⟨vm0, k00, X0, hS0, hk0, hZ0, hown0⟩ := own_W0 X0 e0 hZ hown
  obtain ⟨T1, X1, e1, st1⟩ := initO X0 hx hZ0 hown0 (hw _ (List.mem_of_getElem? (i := 7) rfl)) (hw _ (List.mem_of_getElem? (i := 8) rfl)) (hw _ (List.mem_of_getElem? (i := 9) rfl)) e0 (g := (mkF m 1 #[.val (.ref t0), .val (.ref s0), .val (.ref s1), .unset, .unset, .unset, .unset, .unset] [(.ref t0)])) rfl (by rw [hml]; rfl) rfl (hb hby d1_1) (by decide) (W := 0) (by show 2 * 0 + _ ≤ _; exact Nat.le_of_eq rfl) (by decide)
  obtain ⟨a2, T2, h2, kq2, X2, e2, E2, hS2, hkq2, hZ2, hown2, st2⟩ := ldcS X1 hx hZ0 hown0 (hw _ (List.mem_of_getElem? (i := 10) rfl)) (own_satoms hw) e1 hS0 hk0 (g := (mkF m 6 #[.val (.ref t0), .val (.ref s0), .val (.ref s1), .unset, .unset, .unset, .unset, .unset] [(.ref s0), (.ref t0)])) rfl (hb hby d1_6) (n := 20) (by decide) (by decide) (by decide) (by decide)
  have f3 := E_t0.ext E2
  have f4 := F_state_t0.ext E2
  have f5 := F_transition_t0.ext E2
  have f6 := E_s0.ext E2
  have f7 := V_s0.ext E2
  have f8 := V_s1.ext E2
  have K2 : Keep h0 h2 [t0] := (Keep.refl h0 [t0]).ext E2
  have Zs2 := Nat.le_trans Z0 E2.1
  have hk2 := Nat.le_trans hk0 E2.1
  obtain ⟨_, _, ⟨T9, L9, k9, n9⟩, -, X9, ⟨Lc9, hQ9, lq9, yq9, zq9⟩, st9⟩ := Jvm.LawKit.callS X2 hx (y := (⟨"java/util/Objects", "requireNonNull", "(Ljava/lang/Object;Ljava/lang/String;)Ljava/lang/Object;"⟩ : MethodName)) hown2 (mvT hZ2 (hw _ (List.mem_of_getElem? (i := 18) rfl))) (mvT hZ2 (hw _ (List.mem_of_getElem? (i := 19) rfl))) (mvT hZ2 (hw _ (List.mem_of_getElem? (i := 20) rfl))) (mvT hZ2 (hw _ (List.mem_of_getElem? (i := 21) rfl))) (by decide) (backOf (W := 1) (rn l Z a0 hw [] s0 a2 h2 n0 Zs2 ) hZ2 (hw _ (List.mem_of_getElem? (i := 21) rfl)) (hw _ (List.mem_of_getElem? (i := 20) rfl)) (by decide) (by decide)) (g := (mkF m 8 #[.val (.ref t0), .val (.ref s0), .val (.ref s1), .unset, .unset, .unset, .unset, .unset] [(.ref a2), (.ref s0), (.ref t0)])) rfl (by rw [hml]; rfl) (argsL := [(.ref s0), (.ref a2)]) (rest := [(.ref t0)]) (lenOf pd_0 rfl) rfl (by show 2 * 0 + _ ≤ _; exact Nat.le_of_eq rfl) (hb hby d1_8) (fun _ _ => ⟨rfl, e2, (by decide : 2 + 0 ≤ _), (by decide : 24 + 0 ≤ _)⟩)
  dsimp only [Pt.U, Pt.locs, Pt.cells, Pt.slots] at X9 lq9 yq9 zq9 st9 hQ9
  rw [lq9, yq9, zq9] at X9
  obtain ⟨rfl, N9q, eh9⟩ := hQ9
  have N9 := Fr.app N0 N9q
  have e9 : T9.heap = h2 := eh9
  obtain ⟨T10, X10, e10, st10⟩ := castY X9 hx hZ2 hown2 (hw _ (List.mem_of_getElem? (i := 22) rfl)) e9 (Ins.self f6) (g := (mkF m 11 #[.val (.ref t0), .val (.ref s0), .val (.ref s1), .unset, .unset, .unset, .unset, .unset] [(.ref s0), (.ref t0)])) rfl rfl (hb hby d1_11)
  obtain ⟨T11, h11, X11, e11, W11, st11⟩ := putF X10 hx hZ2 hown2 (host := "") (Or.inl (hw _ (List.mem_of_getElem? (i := 24) rfl))) Via.refl e10 f4 f3 (Or.inr ⟨(hw _ (List.mem_of_getElem? (i := 25) rfl)), rfl, hnm⟩) (hw _ (List.mem_of_getElem? (i := 2) rfl)) (ty := (.array .double)) (by decide) rfl rfl (g := (mkF m 14 #[.val (.ref t0), .val (.ref s0), .val (.ref s1), .unset, .unset, .unset, .unset, .unset] [(.ref s0), (.ref t0)])) rfl rfl (hb hby d1_14)
  have f12 := f3.wr W11
  have f13 := f5.other W11 (Or.inr (so_RewardStructure_transition_state hw))
  have f14 := f6.wr W11
  have f15 := f7.other W11 (Ne.symm ne_t0_s0)
  have f16 := f8.other W11 (Ne.symm ne_t0_s1)
  have K11 : Keep h0 h11 [t0] := K2.wr W11 (Or.inl (List.mem_of_getElem? (i := 0) rfl))
  have Zs11 := Nat.le_trans Zs2 (Keep.of_wr W11).1
  have hk11 := Nat.le_trans hkq2 (Keep.of_wr W11).1
  have N11 := Fr.snoc X11 N9 g_t0
  have f17 : Fld Z h11 t0 "com/example/hedge/hedge/RewardStructure" "state" "[D" (.ref s0) := f4.same W11
  obtain ⟨T18, h18, X18, e18, W18, st18⟩ := putF X11 hx hZ2 hown2 (host := "") (Or.inl (hw _ (List.mem_of_getElem? (i := 26) rfl))) Via.refl e11 f13 f12 (Or.inr ⟨(hw _ (List.mem_of_getElem? (i := 27) rfl)), rfl, hnm⟩) (hw _ (List.mem_of_getElem? (i := 2) rfl)) (ty := (.array .double)) (by decide) rfl rfl (g := (mkF m 19 #[.val (.ref t0), .val (.ref s0), .val (.ref s1), .unset, .unset, .unset, .unset, .unset] [(.ref s1), (.ref t0)])) rfl rfl (hb hby d1_19)
  have f19 := f12.wr W18
  have f20 := f17.other W18 (Or.inr (so_RewardStructure_state_transition hw))
  have f21 := f14.wr W18
  have f22 := f15.other W18 (Ne.symm ne_t0_s0)
  have f23 := f16.other W18 (Ne.symm ne_t0_s1)
  have K18 : Keep h0 h18 [t0] := K11.wr W18 (Or.inl (List.mem_of_getElem? (i := 0) rfl))
  have Zs18 := Nat.le_trans Zs11 (Keep.of_wr W18).1
  have hk18 := Nat.le_trans hk11 (Keep.of_wr W18).1
  have N18 := Fr.snoc X18 N11 g_t0
  have f24 : Fld Z h18 t0 "com/example/hedge/hedge/RewardStructure" "transition" "[D" (.ref s1) := f13.same W18
  obtain ⟨cq25, Arq25, -, Sq25, Nq25, -, -⟩ := id f22
  obtain ⟨cq26, Arq26, -, Sq26, Nq26, -, -⟩ := id f23
  obtain ⟨cq27, Arq27, -, Sq27, -, Hq27, -⟩ := id f23
  obtain ⟨_, _, ⟨T28, L28, k28, n28⟩, -, X28, ⟨Lc28, hQ28, lq28, yq28, zq28⟩, st28⟩ := Jvm.LawKit.callS X18 hx (y := (⟨"com/example/hedge/hedge/RewardStructure", "checkReward", "(D)D"⟩ : MethodName)) hown2 (mvT hZ2 (hw _ (List.mem_of_getElem? (i := 33) rfl))) (mvT hZ2 (hw _ (List.mem_of_getElem? (i := 34) rfl))) (mvT hZ2 (hw _ (List.mem_of_getElem? (i := 3) rfl))) (mvT hZ2 (hw _ (List.mem_of_getElem? (i := 35) rfl))) (by decide) (backOf (W := 0) (cr l Z a0 hw []  h18 n0 Zs18 ) hZ2 (hw _ (List.mem_of_getElem? (i := 35) rfl)) (hw _ (List.mem_of_getElem? (i := 3) rfl)) (by decide) (by decide)) (g := (mkF m 84 #[.val (.ref t0), .val (.ref s0), .val (.ref s1), .val (.ref s1), .val (.int mq), .val (.int (0 : Int32)), .val (.double (0 : UInt64)), .second] [(.double (0 : UInt64))])) rfl (by rw [hml]; rfl) (argsL := [(.double (0 : UInt64))]) (rest := []) (lenOf pd_1 rfl) rfl (by show 2 * 0 + _ ≤ _; exact Nat.le_of_eq rfl) (hb hby d1_84) (fun _ _ => ⟨rfl, e18, (by decide : 2 + 0 ≤ _), (by decide : 24 + 0 ≤ _)⟩)
  dsimp only [Pt.U, Pt.locs, Pt.cells, Pt.slots] at X28 lq28 yq28 zq28 st28 hQ28
  rw [lq28, yq28, zq28] at X28
  obtain ⟨rfl, N28q, eh28⟩ := hQ28
  have N28 := Fr.app N18 N28q
  have e28 : T28.heap = h18 := eh28
  obtain ⟨fs, hr, hrun, hended, hRW⟩ := X28.leaveW hS2 (by rw [e28]; exact hk18) (v := none) (fun _ => rfl)
  refine ⟨_, _, pre0 _ ?_, hrun, hended, _, _, rfl, ?_, ⟨_, rfl⟩, hRW.2.1, hRW.2.2.1, hRW.2.2.2.mono (by decide) (by decide)⟩
  · show Steps p.tables e below (s₁.setTop (mkF m 0 #[.val (.ref t0), .val (.ref s0), .val (.ref s1), .unset, .unset, .unset, .unset, .unset] [])) _
    refine XS.aloadN X0.here hx rfl (hb hby d1_0) rfl rfl ?_
    refine st1 _ ?_
    show Steps p.tables e below (T1.setTop (mkF m 4 #[.val (.ref t0), .val (.ref s0), .val (.ref s1), .unset, .unset, .unset, .unset, .unset] [])) _
    refine XS.aloadN X1.here hx rfl (hb hby d1_4) rfl rfl ?_
    refine XS.aloadN X1.here hx rfl (hb hby d1_5) rfl rfl ?_
    refine st2 _ ?_
    show Steps p.tables e below (T2.setTop (mkF m 8 #[.val (.ref t0), .val (.ref s0), .val (.ref s1), .unset, .unset, .unset, .unset, .unset] [(.ref a2), (.ref s0), (.ref t0)])) _
    refine st9 _ ?_
    show Steps p.tables e below (T9.setTop (mkF m 11 #[.val (.ref t0), .val (.ref s0), .val (.ref s1), .unset, .unset, .unset, .unset, .unset] [(.ref s0), (.ref t0)])) _
    refine st10 _ ?_
    show Steps p.tables e below (T10.setTop (mkF m 14 #[.val (.ref t0), .val (.ref s0), .val (.ref s1), .unset, .unset, .unset, .unset, .unset] [(.ref s0), (.ref t0)])) _
    refine st11 _ ?_
    show Steps p.tables e below (T11.setTop (mkF m 17 #[.val (.ref t0), .val (.ref s0), .val (.ref s1), .unset, .unset, .unset, .unset, .unset] [])) _
    refine XS.aloadN X11.here hx rfl (hb hby d1_17) rfl rfl ?_
    refine XS.aloadN X11.here hx rfl (hb hby d1_18) rfl rfl ?_
    refine st18 _ ?_
    show Steps p.tables e below (T18.setTop (mkF m 22 #[.val (.ref t0), .val (.ref s0), .val (.ref s1), .unset, .unset, .unset, .unset, .unset] [])) _
    refine XS.aloadN X18.here hx rfl (hb hby d1_22) rfl rfl ?_
    refine XS.astoreN X18.here hx rfl (hb hby d1_23) rfl rfl (l' := #[.val (.ref t0), .val (.ref s0), .val (.ref s1), .val (.ref s0), .unset, .unset, .unset, .unset]) rfl ?_
    refine XS.aloadN X18.here hx rfl (hb hby d1_24) rfl rfl ?_
    refine X18.arraylength hx (by rw [e18]; exact Arq25.1) (State.isArrayOf_alike hZ2.alike Arq25.2.1) (g := (mkF m 25 #[.val (.ref t0), .val (.ref s0), .val (.ref s1), .val (.ref s0), .unset, .unset, .unset, .unset] [(.ref s0)])) rfl rfl (hb hby d1_25) _ ?_
    rw [len_of Sq25 Nq25]
    show Steps p.tables e below (T18.setTop (mkF m 26 #[.val (.ref t0), .val (.ref s0), .val (.ref s1), .val (.ref s0), .unset, .unset, .unset, .unset] [(.int nq)])) _
    refine XS.istore X18.here hx rfl (hb hby d1_26) rfl (l' := #[.val (.ref t0), .val (.ref s0), .val (.ref s1), .val (.ref s0), .val (.int nq), .unset, .unset, .unset]) rfl ?_
    refine XS.iconst X18.here hx rfl (hb hby d1_28) ?_
    show Steps p.tables e below (T18.setTop (mkF m 29 #[.val (.ref t0), .val (.ref s0), .val (.ref s1), .val (.ref s0), .val (.int nq), .unset, .unset, .unset] [(.int (0 : Int32))])) _
    refine XS.istore X18.here hx rfl (hb hby d1_29) rfl (l' := #[.val (.ref t0), .val (.ref s0), .val (.ref s1), .val (.ref s0), .val (.int nq), .val (.int (0 : Int32)), .unset, .unset]) rfl ?_
    refine XS.iload X18.here hx rfl (hb hby d1_31) rfl ?_
    refine XS.iload X18.here hx rfl (hb hby d1_33) rfl ?_
    refine XS.icmpYes X18.here hx rfl (pc0 := 35) (pc' := 56) rfl (hb hby d1_35) rfl (flt hc35).2.1 (by decide) (by decide) ?_
    refine XS.aloadN X18.here hx rfl (hb hby d1_56) rfl rfl ?_
    refine XS.ifnullNo X18.here hx rfl (hb hby d1_57) rfl ?_
    show Steps p.tables e below (T18.setTop (mkF m 60 #[.val (.ref t0), .val (.ref s0), .val (.ref s1), .val (.ref s0), .val (.int nq), .val (.int (0 : Int32)), .unset, .unset] [])) _
    refine XS.aloadN X18.here hx rfl (hb hby d1_60) rfl rfl ?_
    refine XS.astoreN X18.here hx rfl (hb hby d1_61) rfl rfl (l' := #[.val (.ref t0), .val (.ref s0), .val (.ref s1), .val (.ref s1), .val (.int nq), .val (.int (0 : Int32)), .unset, .unset]) rfl ?_
    refine XS.aloadN X18.here hx rfl (hb hby d1_62) rfl rfl ?_
    refine X18.arraylength hx (by rw [e18]; exact Arq26.1) (State.isArrayOf_alike hZ2.alike Arq26.2.1) (g := (mkF m 63 #[.val (.ref t0), .val (.ref s0), .val (.ref s1), .val (.ref s1), .val (.int nq), .val (.int (0 : Int32)), .unset, .unset] [(.ref s1)])) rfl rfl (hb hby d1_63) _ ?_
    rw [len_of Sq26 Nq26]
    show Steps p.tables e below (T18.setTop (mkF m 64 #[.val (.ref t0), .val (.ref s0), .val (.ref s1), .val (.ref s1), .val (.int nq), .val (.int (0 : Int32)), .unset, .unset] [(.int mq)])) _
    refine XS.istore X18.here hx rfl (hb hby d1_64) rfl (l' := #[.val (.ref t0), .val (.ref s0), .val (.ref s1), .val (.ref s1), .val (.int mq), .val (.int (0 : Int32)), .unset, .unset]) rfl ?_
    refine XS.iconst X18.here hx rfl (hb hby d1_66) ?_
    show Steps p.tables e below (T18.setTop (mkF m 67 #[.val (.ref t0), .val (.ref s0), .val (.ref s1), .val (.ref s1), .val (.int mq), .val (.int (0 : Int32)), .unset, .unset] [(.int (0 : Int32))])) _
    refine XS.istore X18.here hx rfl (hb hby d1_67) rfl (l' := #[.val (.ref t0), .val (.ref s0), .val (.ref s1), .val (.ref s1), .val (.int mq), .val (.int (0 : Int32)), .unset, .unset]) rfl ?_
    refine XS.iload X18.here hx rfl (hb hby d1_69) rfl ?_
    refine XS.iload X18.here hx rfl (hb hby d1_71) rfl ?_
    refine XS.icmpNo X18.here hx rfl (hb hby d1_73) rfl (tlt hc73).2.1 ?_
    refine XS.aloadN X18.here hx rfl (hb hby d1_76) rfl rfl ?_
    refine XS.iload X18.here hx rfl (hb hby d1_77) rfl ?_
    show Steps p.tables e below (T18.setTop (mkF m 79 #[.val (.ref t0), .val (.ref s0), .val (.ref s1), .val (.ref s1), .val (.int mq), .val (.int (0 : Int32)), .unset, .unset] [(.int (0 : Int32)), (.ref s1)])) _
    refine X18.daload hx (j := (0 : Int32)) (v := (.double (0 : UInt64))) (by rw [e18]; exact Arq27.1) (State.isArrayOf_alike hZ2.alike Arq27.2.1) Arq27.2.2 (inb_of Sq27 hin79) (Has.at Hq27 (inb_of Sq27 hin79) rfl) (g := (mkF m 79 #[.val (.ref t0), .val (.ref s0), .val (.ref s1), .val (.ref s1), .val (.int mq), .val (.int (0 : Int32)), .unset, .unset] [(.int (0 : Int32)), (.ref s1)])) rfl rfl (hb hby d1_79) _ ?_
    show Steps p.tables e below (T18.setTop (mkF m 80 #[.val (.ref t0), .val (.ref s0), .val (.ref s1), .val (.ref s1), .val (.int mq), .val (.int (0 : Int32)), .unset, .unset] [(.double (0 : UInt64))])) _
    refine XS.dstore X18.here hx rfl (hb hby d1_80) rfl (l' := #[.val (.ref t0), .val (.ref s0), .val (.ref s1), .val (.ref s1), .val (.int mq), .val (.int (0 : Int32)), .val (.double (0 : UInt64)), .second]) rfl ?_
    refine XS.dload X18.here hx rfl (hb hby d1_82) rfl ?_
    refine st28 _ ?_
    show Steps p.tables e below (T28.setTop (mkF m 87 #[.val (.ref t0), .val (.ref s0), .val (.ref s1), .val (.ref s1), .val (.int mq), .val (.int (0 : Int32)), .val (.double (0 : UInt64)), .second] [(.double (0 : UInt64))])) _
    jvm_step X28.here [X28.here.top, hx, (hb hby d1_87), Value.category]
    show Steps p.tables e below (T28.setTop (mkF m 88 #[.val (.ref t0), .val (.ref s0), .val (.ref s1), .val (.ref s1), .val (.int mq), .val (.int (0 : Int32)), .val (.double (0 : UInt64)), .second] [])) _
    refine XS.iinc X28.here hx rfl (hb hby d1_88) rfl (l' := #[.val (.ref t0), .val (.ref s0), .val (.ref s1), .val (.ref s1), .val (.int mq), .val (.int ((0 : Int32) + (1 : Int32))), .val (.double (0 : UInt64)), .second]) rfl ?_
    show Steps p.tables e below (T28.setTop (mkF m 91 #[.val (.ref t0), .val (.ref s0), .val (.ref s1), .val (.ref s1), .val (.int mq), .val (.int ((0 : Int32) + (1 : Int32))), .val (.double (0 : UInt64)), .second] [])) _
    rw [show ((0 : Int32) + (1 : Int32)) = (1 : Int32) by decide]
    show Steps p.tables e below (T28.setTop (mkF m 91 #[.val (.ref t0), .val (.ref s0), .val (.ref s1), .val (.ref s1), .val (.int mq), .val (.int (1 : Int32)), .val (.double (0 : UInt64)), .second] [])) _
    refine XS.goto X28.here hx rfl (pc0 := 91) (pc' := 69) rfl (hb hby d1_91) (by decide) (by decide) ?_
    refine XS.iload X28.here hx rfl (hb hby d1_69) rfl ?_
    refine XS.iload X28.here hx rfl (hb hby d1_71) rfl ?_
    refine XS.icmpYes X28.here hx rfl (pc0 := 73) (pc' := 94) rfl (hb hby d1_73) rfl (flt hc73_1).2.1 (by decide) (by decide) ?_
    exact X28.returnOut hx Bd.returns (hb hby d1_94) hr
  · show Q_ini01 Z t0 s0 s1 nq ka mq kb h0 n0 _ T28.heap _
    rw [e28]
    exact ⟨rfl, N28, K18, f19, f20, f24⟩
def Q_ini02 (Z : State) (t0 : Addr) (s0 : Addr) (s1 : Addr) (nq : Int32) (ka : ClassId) (mq : Int32) (kb : ClassId) (h0 : Heap) (n0 : Nat) (v : Option Value) (h : Heap) (L : List Loc) : Prop := v = none ∧ Fr n0 L ∧ Keep h0 h [t0] ∧ Exa Z h t0 "com/example/hedge/hedge/RewardStructure" ∧ Fld Z h t0 "com/example/hedge/hedge/RewardStructure" "state" "[D" (.ref s0) ∧ Fld Z h t0 "com/example/hedge/hedge/RewardStructure" "transition" "[D" (.ref s1)
set_option maxRecDepth 65536 in
set_option maxHeartbeats 40000000 in
theorem ini02 (l : Launch) (Z : State) (a0 : Array Value) (hw : ∀ d ∈ tables_1, d.before a0 Z = true) (ws : List Jvm.Cond) (t0 : Addr) (s0 : Addr) (s1 : Addr) (nq : Int32) (ka : ClassId) (mq : Int32) (kb : ClassId) (h0 : Heap) (n0 : Nat) (Z0 : n0 ≤ h0.size) (E_t0 : Exa Z h0 t0 "com/example/hedge/hedge/RewardStructure") (g_t0 : n0 ≤ t0) (F_state_t0 : Fld Z h0 t0 "com/example/hedge/hedge/RewardStructure" "state" "[D" .null) (F_transition_t0 : Fld Z h0 t0 "com/example/hedge/hedge/RewardStructure" "transition" "[D" .null) (E_s0 : Exa Z h0 s0 "[D") (V_s0 : Arv Z h0 s0 ka .double nq [] (.double (0 : UInt64))) (V_s1 : Arv Z h0 s1 kb .double mq [] (.double (0 : UInt64))) (ne_t0_s0 : t0 ≠ s0) (ne_t0_s1 : t0 ≠ s1) (hc35 : ¬ ((0 : Int32) < nq)) (hc73 : (0 : Int32) < mq) (hin79 : ¬ (0 : Int32) < 0 ∧ (0 : Int32) < mq) (hc73_1 : (1 : Int32) < mq) (hin79_1 : ¬ (1 : Int32) < 0 ∧ (1 : Int32) < mq) (hc73_2 : ¬ ((2 : Int32) < mq)) :
    MetFree l (⟨"com/example/hedge/hedge/RewardStructure", "<init>", "([D[D)V"⟩ : MethodName) (head1 (Jvm.Cond.code (⟨"com/example/hedge/hedge/RewardStructure", "<init>", "([D[D)V"⟩ : MethodName) prog_30_method_1_code 8 none :: ws) ({ frames := 1, cells := 2, slots := 24, locals := 14 } : Room)) (fun a U => a = #[(.ref t0), (.ref s0), (.ref s1)] ∧ Z.Warmed39 U.vm ∧ U.heap = h0) (fun _ _ _ _ _ => True) (fun _ U o U' => ∃ v L, o = .returned v ∧ Q_ini02 Z t0 s0 s1 nq ka mq kb h0 n0 v U'.heap L ∧ ReturnedEndW U o U' L ({ frames := 1, cells := 2, slots := 24, locals := 14 } : Room).cells ({ frames := 1, cells := 2, slots := 24, locals := 14 } : Room).slots) := by
  refine MetFree.of_bodySF (plainFor_of_name pn_com_example_hedge_hedge_RewardStructure) hisR ?_
  intro p e s m args below meth c s₁ Bd hml0 hP hK
  obtain ⟨rfl, hZ, hh⟩ := hP
  have hx := Bd.exec
  have hby := Bd.bytes
  have hml : c.maxLocals = 8 := hml0
  have hown : s.vm.findClass "com/example/hedge/hedge/RewardStructure" = some m.cls := findClass_of_methodNamed Bd.named
  have hnm := (name_of_methodNamed Bd.named Bd.method).1
  have X0 : Stand p l e ({ frames := 1, cells := 2, slots := 24, locals := 14 } : Room) s m #[(.ref t0), (.ref s0), (.ref s1)] below meth c s₁ [] 0 0 := Stand.of_body Bd
  have e0 : s₁.heap = h0 := by rw [← hh, Bd.state]; rfl
  have N0 := Fr.nil n0
  have pre0 : ∀ t, Steps p.tables e below (s₁.setTop (mkF m 0 #[.val (.ref t0), .val (.ref s0), .val (.ref s1), .unset, .unset, .unset, .unset, .unset] [])) t → Steps p.tables e below (s₁.setTop (entryFrame m #[(.ref t0), (.ref s0), (.ref s1)] 8)) t := fun t k => castTop (ef_1_RRR m t0 s0 s1) k
  obtain ⟨vm0, k00, X0, hS0, hk0, hZ0, hown0⟩ := own_W0 X0 e0 hZ hown
  obtain ⟨T1, X1, e1, st1⟩ := initO X0 hx hZ0 hown0 (hw _ (List.mem_of_getElem? (i := 7) rfl)) (hw _ (List.mem_of_getElem? (i := 8) rfl)) (hw _ (List.mem_of_getElem? (i := 9) rfl)) e0 (g := (mkF m 1 #[.val (.ref t0), .val (.ref s0), .val (.ref s1), .unset, .unset, .unset, .unset, .unset] [(.ref t0)])) rfl (by rw [hml]; rfl) rfl (hb hby d1_1) (by decide) (W := 0) (by show 2 * 0 + _ ≤ _; exact Nat.le_of_eq rfl) (by decide)
  obtain ⟨a2, T2, h2, kq2, X2, e2, E2, hS2, hkq2, hZ2, hown2, st2⟩ := ldcS X1 hx hZ0 hown0 (hw _ (List.mem_of_getElem? (i := 10) rfl)) (own_satoms hw) e1 hS0 hk0 (g := (mkF m 6 #[.val (.ref t0), .val (.ref s0), .val (.ref s1), .unset, .unset, .unset, .unset, .unset] [(.ref s0), (.ref t0)])) rfl (hb hby d1_6) (n := 20) (by decide) (by decide) (by decide) (by decide)
  have f3 := E_t0.ext E2
  have f4 := F_state_t0.ext E2
  have f5 := F_transition_t0.ext E2
  have f6 := E_s0.ext E2
  have f7 := V_s0.ext E2
  have f8 := V_s1.ext E2
  have K2 : Keep h0 h2 [t0] := (Keep.refl h0 [t0]).ext E2
  have Zs2 := Nat.le_trans Z0 E2.1
  have hk2 := Nat.le_trans hk0 E2.1
  obtain ⟨_, _, ⟨T9, L9, k9, n9⟩, -, X9, ⟨Lc9, hQ9, lq9, yq9, zq9⟩, st9⟩ := Jvm.LawKit.callS X2 hx (y := (⟨"java/util/Objects", "requireNonNull", "(Ljava/lang/Object;Ljava/lang/String;)Ljava/lang/Object;"⟩ : MethodName)) hown2 (mvT hZ2 (hw _ (List.mem_of_getElem? (i := 18) rfl))) (mvT hZ2 (hw _ (List.mem_of_getElem? (i := 19) rfl))) (mvT hZ2 (hw _ (List.mem_of_getElem? (i := 20) rfl))) (mvT hZ2 (hw _ (List.mem_of_getElem? (i := 21) rfl))) (by decide) (backOf (W := 1) (rn l Z a0 hw [] s0 a2 h2 n0 Zs2 ) hZ2 (hw _ (List.mem_of_getElem? (i := 21) rfl)) (hw _ (List.mem_of_getElem? (i := 20) rfl)) (by decide) (by decide)) (g := (mkF m 8 #[.val (.ref t0), .val (.ref s0), .val (.ref s1), .unset, .unset, .unset, .unset, .unset] [(.ref a2), (.ref s0), (.ref t0)])) rfl (by rw [hml]; rfl) (argsL := [(.ref s0), (.ref a2)]) (rest := [(.ref t0)]) (lenOf pd_0 rfl) rfl (by show 2 * 0 + _ ≤ _; exact Nat.le_of_eq rfl) (hb hby d1_8) (fun _ _ => ⟨rfl, e2, (by decide : 2 + 0 ≤ _), (by decide : 24 + 0 ≤ _)⟩)
  dsimp only [Pt.U, Pt.locs, Pt.cells, Pt.slots] at X9 lq9 yq9 zq9 st9 hQ9
  rw [lq9, yq9, zq9] at X9
  obtain ⟨rfl, N9q, eh9⟩ := hQ9
  have N9 := Fr.app N0 N9q
  have e9 : T9.heap = h2 := eh9
  obtain ⟨T10, X10, e10, st10⟩ := castY X9 hx hZ2 hown2 (hw _ (List.mem_of_getElem? (i := 22) rfl)) e9 (Ins.self f6) (g := (mkF m 11 #[.val (.ref t0), .val (.ref s0), .val (.ref s1), .unset, .unset, .unset, .unset, .unset] [(.ref s0), (.ref t0)])) rfl rfl (hb hby d1_11)
  obtain ⟨T11, h11, X11, e11, W11, st11⟩ := putF X10 hx hZ2 hown2 (host := "") (Or.inl (hw _ (List.mem_of_getElem? (i := 24) rfl))) Via.refl e10 f4 f3 (Or.inr ⟨(hw _ (List.mem_of_getElem? (i := 25) rfl)), rfl, hnm⟩) (hw _ (List.mem_of_getElem? (i := 2) rfl)) (ty := (.array .double)) (by decide) rfl rfl (g := (mkF m 14 #[.val (.ref t0), .val (.ref s0), .val (.ref s1), .unset, .unset, .unset, .unset, .unset] [(.ref s0), (.ref t0)])) rfl rfl (hb hby d1_14)
  have f12 := f3.wr W11
  have f13 := f5.other W11 (Or.inr (so_RewardStructure_transition_state hw))
  have f14 := f6.wr W11
  have f15 := f7.other W11 (Ne.symm ne_t0_s0)
  have f16 := f8.other W11 (Ne.symm ne_t0_s1)
  have K11 : Keep h0 h11 [t0] := K2.wr W11 (Or.inl (List.mem_of_getElem? (i := 0) rfl))
  have Zs11 := Nat.le_trans Zs2 (Keep.of_wr W11).1
  have hk11 := Nat.le_trans hkq2 (Keep.of_wr W11).1
  have N11 := Fr.snoc X11 N9 g_t0
  have f17 : Fld Z h11 t0 "com/example/hedge/hedge/RewardStructure" "state" "[D" (.ref s0) := f4.same W11
  obtain ⟨T18, h18, X18, e18, W18, st18⟩ := putF X11 hx hZ2 hown2 (host := "") (Or.inl (hw _ (List.mem_of_getElem? (i := 26) rfl))) Via.refl e11 f13 f12 (Or.inr ⟨(hw _ (List.mem_of_getElem? (i := 27) rfl)), rfl, hnm⟩) (hw _ (List.mem_of_getElem? (i := 2) rfl)) (ty := (.array .double)) (by decide) rfl rfl (g := (mkF m 19 #[.val (.ref t0), .val (.ref s0), .val (.ref s1), .unset, .unset, .unset, .unset, .unset] [(.ref s1), (.ref t0)])) rfl rfl (hb hby d1_19)
  have f19 := f12.wr W18
  have f20 := f17.other W18 (Or.inr (so_RewardStructure_state_transition hw))
  have f21 := f14.wr W18
  have f22 := f15.other W18 (Ne.symm ne_t0_s0)
  have f23 := f16.other W18 (Ne.symm ne_t0_s1)
  have K18 : Keep h0 h18 [t0] := K11.wr W18 (Or.inl (List.mem_of_getElem? (i := 0) rfl))
  have Zs18 := Nat.le_trans Zs11 (Keep.of_wr W18).1
  have hk18 := Nat.le_trans hk11 (Keep.of_wr W18).1
  have N18 := Fr.snoc X18 N11 g_t0
  have f24 : Fld Z h18 t0 "com/example/hedge/hedge/RewardStructure" "transition" "[D" (.ref s1) := f13.same W18
  obtain ⟨cq25, Arq25, -, Sq25, Nq25, -, -⟩ := id f22
  obtain ⟨cq26, Arq26, -, Sq26, Nq26, -, -⟩ := id f23
  obtain ⟨cq27, Arq27, -, Sq27, -, Hq27, -⟩ := id f23
  obtain ⟨_, _, ⟨T28, L28, k28, n28⟩, -, X28, ⟨Lc28, hQ28, lq28, yq28, zq28⟩, st28⟩ := Jvm.LawKit.callS X18 hx (y := (⟨"com/example/hedge/hedge/RewardStructure", "checkReward", "(D)D"⟩ : MethodName)) hown2 (mvT hZ2 (hw _ (List.mem_of_getElem? (i := 33) rfl))) (mvT hZ2 (hw _ (List.mem_of_getElem? (i := 34) rfl))) (mvT hZ2 (hw _ (List.mem_of_getElem? (i := 3) rfl))) (mvT hZ2 (hw _ (List.mem_of_getElem? (i := 35) rfl))) (by decide) (backOf (W := 0) (cr l Z a0 hw []  h18 n0 Zs18 ) hZ2 (hw _ (List.mem_of_getElem? (i := 35) rfl)) (hw _ (List.mem_of_getElem? (i := 3) rfl)) (by decide) (by decide)) (g := (mkF m 84 #[.val (.ref t0), .val (.ref s0), .val (.ref s1), .val (.ref s1), .val (.int mq), .val (.int (0 : Int32)), .val (.double (0 : UInt64)), .second] [(.double (0 : UInt64))])) rfl (by rw [hml]; rfl) (argsL := [(.double (0 : UInt64))]) (rest := []) (lenOf pd_1 rfl) rfl (by show 2 * 0 + _ ≤ _; exact Nat.le_of_eq rfl) (hb hby d1_84) (fun _ _ => ⟨rfl, e18, (by decide : 2 + 0 ≤ _), (by decide : 24 + 0 ≤ _)⟩)
  dsimp only [Pt.U, Pt.locs, Pt.cells, Pt.slots] at X28 lq28 yq28 zq28 st28 hQ28
  rw [lq28, yq28, zq28] at X28
  obtain ⟨rfl, N28q, eh28⟩ := hQ28
  have N28 := Fr.app N18 N28q
  have e28 : T28.heap = h18 := eh28
  obtain ⟨cq29, Arq29, -, Sq29, -, Hq29, -⟩ := id f23
  obtain ⟨_, _, ⟨T30, L30, k30, n30⟩, -, X30, ⟨Lc30, hQ30, lq30, yq30, zq30⟩, st30⟩ := Jvm.LawKit.callS X28 hx (y := (⟨"com/example/hedge/hedge/RewardStructure", "checkReward", "(D)D"⟩ : MethodName)) hown2 (mvT hZ2 (hw _ (List.mem_of_getElem? (i := 33) rfl))) (mvT hZ2 (hw _ (List.mem_of_getElem? (i := 34) rfl))) (mvT hZ2 (hw _ (List.mem_of_getElem? (i := 3) rfl))) (mvT hZ2 (hw _ (List.mem_of_getElem? (i := 35) rfl))) (by decide) (backOf (W := 0) (cr l Z a0 hw []  h18 n0 Zs18 ) hZ2 (hw _ (List.mem_of_getElem? (i := 35) rfl)) (hw _ (List.mem_of_getElem? (i := 3) rfl)) (by decide) (by decide)) (g := (mkF m 84 #[.val (.ref t0), .val (.ref s0), .val (.ref s1), .val (.ref s1), .val (.int mq), .val (.int (1 : Int32)), .val (.double (0 : UInt64)), .second] [(.double (0 : UInt64))])) rfl (by rw [hml]; rfl) (argsL := [(.double (0 : UInt64))]) (rest := []) (lenOf pd_1 rfl) rfl (by show 2 * 0 + _ ≤ _; exact Nat.le_of_eq rfl) (hb hby d1_84) (fun _ _ => ⟨rfl, e28, (by decide : 2 + 0 ≤ _), (by decide : 24 + 0 ≤ _)⟩)
  dsimp only [Pt.U, Pt.locs, Pt.cells, Pt.slots] at X30 lq30 yq30 zq30 st30 hQ30
  rw [lq30, yq30, zq30] at X30
  obtain ⟨rfl, N30q, eh30⟩ := hQ30
  have N30 := Fr.app N28 N30q
  have e30 : T30.heap = h18 := eh30
  obtain ⟨fs, hr, hrun, hended, hRW⟩ := X30.leaveW hS2 (by rw [e30]; exact hk18) (v := none) (fun _ => rfl)
  refine ⟨_, _, pre0 _ ?_, hrun, hended, _, _, rfl, ?_, ⟨_, rfl⟩, hRW.2.1, hRW.2.2.1, hRW.2.2.2.mono (by decide) (by decide)⟩
  · show Steps p.tables e below (s₁.setTop (mkF m 0 #[.val (.ref t0), .val (.ref s0), .val (.ref s1), .unset, .unset, .unset, .unset, .unset] [])) _
    refine XS.aloadN X0.here hx rfl (hb hby d1_0) rfl rfl ?_
    refine st1 _ ?_
    show Steps p.tables e below (T1.setTop (mkF m 4 #[.val (.ref t0), .val (.ref s0), .val (.ref s1), .unset, .unset, .unset, .unset, .unset] [])) _
    refine XS.aloadN X1.here hx rfl (hb hby d1_4) rfl rfl ?_
    refine XS.aloadN X1.here hx rfl (hb hby d1_5) rfl rfl ?_
    refine st2 _ ?_
    show Steps p.tables e below (T2.setTop (mkF m 8 #[.val (.ref t0), .val (.ref s0), .val (.ref s1), .unset, .unset, .unset, .unset, .unset] [(.ref a2), (.ref s0), (.ref t0)])) _
    refine st9 _ ?_
    show Steps p.tables e below (T9.setTop (mkF m 11 #[.val (.ref t0), .val (.ref s0), .val (.ref s1), .unset, .unset, .unset, .unset, .unset] [(.ref s0), (.ref t0)])) _
    refine st10 _ ?_
    show Steps p.tables e below (T10.setTop (mkF m 14 #[.val (.ref t0), .val (.ref s0), .val (.ref s1), .unset, .unset, .unset, .unset, .unset] [(.ref s0), (.ref t0)])) _
    refine st11 _ ?_
    show Steps p.tables e below (T11.setTop (mkF m 17 #[.val (.ref t0), .val (.ref s0), .val (.ref s1), .unset, .unset, .unset, .unset, .unset] [])) _
    refine XS.aloadN X11.here hx rfl (hb hby d1_17) rfl rfl ?_
    refine XS.aloadN X11.here hx rfl (hb hby d1_18) rfl rfl ?_
    refine st18 _ ?_
    show Steps p.tables e below (T18.setTop (mkF m 22 #[.val (.ref t0), .val (.ref s0), .val (.ref s1), .unset, .unset, .unset, .unset, .unset] [])) _
    refine XS.aloadN X18.here hx rfl (hb hby d1_22) rfl rfl ?_
    refine XS.astoreN X18.here hx rfl (hb hby d1_23) rfl rfl (l' := #[.val (.ref t0), .val (.ref s0), .val (.ref s1), .val (.ref s0), .unset, .unset, .unset, .unset]) rfl ?_
    refine XS.aloadN X18.here hx rfl (hb hby d1_24) rfl rfl ?_
    refine X18.arraylength hx (by rw [e18]; exact Arq25.1) (State.isArrayOf_alike hZ2.alike Arq25.2.1) (g := (mkF m 25 #[.val (.ref t0), .val (.ref s0), .val (.ref s1), .val (.ref s0), .unset, .unset, .unset, .unset] [(.ref s0)])) rfl rfl (hb hby d1_25) _ ?_
    rw [len_of Sq25 Nq25]
    show Steps p.tables e below (T18.setTop (mkF m 26 #[.val (.ref t0), .val (.ref s0), .val (.ref s1), .val (.ref s0), .unset, .unset, .unset, .unset] [(.int nq)])) _
    refine XS.istore X18.here hx rfl (hb hby d1_26) rfl (l' := #[.val (.ref t0), .val (.ref s0), .val (.ref s1), .val (.ref s0), .val (.int nq), .unset, .unset, .unset]) rfl ?_
    refine XS.iconst X18.here hx rfl (hb hby d1_28) ?_
    show Steps p.tables e below (T18.setTop (mkF m 29 #[.val (.ref t0), .val (.ref s0), .val (.ref s1), .val (.ref s0), .val (.int nq), .unset, .unset, .unset] [(.int (0 : Int32))])) _
    refine XS.istore X18.here hx rfl (hb hby d1_29) rfl (l' := #[.val (.ref t0), .val (.ref s0), .val (.ref s1), .val (.ref s0), .val (.int nq), .val (.int (0 : Int32)), .unset, .unset]) rfl ?_
    refine XS.iload X18.here hx rfl (hb hby d1_31) rfl ?_
    refine XS.iload X18.here hx rfl (hb hby d1_33) rfl ?_
    refine XS.icmpYes X18.here hx rfl (pc0 := 35) (pc' := 56) rfl (hb hby d1_35) rfl (flt hc35).2.1 (by decide) (by decide) ?_
    refine XS.aloadN X18.here hx rfl (hb hby d1_56) rfl rfl ?_
    refine XS.ifnullNo X18.here hx rfl (hb hby d1_57) rfl ?_
    show Steps p.tables e below (T18.setTop (mkF m 60 #[.val (.ref t0), .val (.ref s0), .val (.ref s1), .val (.ref s0), .val (.int nq), .val (.int (0 : Int32)), .unset, .unset] [])) _
    refine XS.aloadN X18.here hx rfl (hb hby d1_60) rfl rfl ?_
    refine XS.astoreN X18.here hx rfl (hb hby d1_61) rfl rfl (l' := #[.val (.ref t0), .val (.ref s0), .val (.ref s1), .val (.ref s1), .val (.int nq), .val (.int (0 : Int32)), .unset, .unset]) rfl ?_
    refine XS.aloadN X18.here hx rfl (hb hby d1_62) rfl rfl ?_
    refine X18.arraylength hx (by rw [e18]; exact Arq26.1) (State.isArrayOf_alike hZ2.alike Arq26.2.1) (g := (mkF m 63 #[.val (.ref t0), .val (.ref s0), .val (.ref s1), .val (.ref s1), .val (.int nq), .val (.int (0 : Int32)), .unset, .unset] [(.ref s1)])) rfl rfl (hb hby d1_63) _ ?_
    rw [len_of Sq26 Nq26]
    show Steps p.tables e below (T18.setTop (mkF m 64 #[.val (.ref t0), .val (.ref s0), .val (.ref s1), .val (.ref s1), .val (.int nq), .val (.int (0 : Int32)), .unset, .unset] [(.int mq)])) _
    refine XS.istore X18.here hx rfl (hb hby d1_64) rfl (l' := #[.val (.ref t0), .val (.ref s0), .val (.ref s1), .val (.ref s1), .val (.int mq), .val (.int (0 : Int32)), .unset, .unset]) rfl ?_
    refine XS.iconst X18.here hx rfl (hb hby d1_66) ?_
    show Steps p.tables e below (T18.setTop (mkF m 67 #[.val (.ref t0), .val (.ref s0), .val (.ref s1), .val (.ref s1), .val (.int mq), .val (.int (0 : Int32)), .unset, .unset] [(.int (0 : Int32))])) _
    refine XS.istore X18.here hx rfl (hb hby d1_67) rfl (l' := #[.val (.ref t0), .val (.ref s0), .val (.ref s1), .val (.ref s1), .val (.int mq), .val (.int (0 : Int32)), .unset, .unset]) rfl ?_
    refine XS.iload X18.here hx rfl (hb hby d1_69) rfl ?_
    refine XS.iload X18.here hx rfl (hb hby d1_71) rfl ?_
    refine XS.icmpNo X18.here hx rfl (hb hby d1_73) rfl (tlt hc73).2.1 ?_
    refine XS.aloadN X18.here hx rfl (hb hby d1_76) rfl rfl ?_
    refine XS.iload X18.here hx rfl (hb hby d1_77) rfl ?_
    show Steps p.tables e below (T18.setTop (mkF m 79 #[.val (.ref t0), .val (.ref s0), .val (.ref s1), .val (.ref s1), .val (.int mq), .val (.int (0 : Int32)), .unset, .unset] [(.int (0 : Int32)), (.ref s1)])) _
    refine X18.daload hx (j := (0 : Int32)) (v := (.double (0 : UInt64))) (by rw [e18]; exact Arq27.1) (State.isArrayOf_alike hZ2.alike Arq27.2.1) Arq27.2.2 (inb_of Sq27 hin79) (Has.at Hq27 (inb_of Sq27 hin79) rfl) (g := (mkF m 79 #[.val (.ref t0), .val (.ref s0), .val (.ref s1), .val (.ref s1), .val (.int mq), .val (.int (0 : Int32)), .unset, .unset] [(.int (0 : Int32)), (.ref s1)])) rfl rfl (hb hby d1_79) _ ?_
    show Steps p.tables e below (T18.setTop (mkF m 80 #[.val (.ref t0), .val (.ref s0), .val (.ref s1), .val (.ref s1), .val (.int mq), .val (.int (0 : Int32)), .unset, .unset] [(.double (0 : UInt64))])) _
    refine XS.dstore X18.here hx rfl (hb hby d1_80) rfl (l' := #[.val (.ref t0), .val (.ref s0), .val (.ref s1), .val (.ref s1), .val (.int mq), .val (.int (0 : Int32)), .val (.double (0 : UInt64)), .second]) rfl ?_
    refine XS.dload X18.here hx rfl (hb hby d1_82) rfl ?_
    refine st28 _ ?_
    show Steps p.tables e below (T28.setTop (mkF m 87 #[.val (.ref t0), .val (.ref s0), .val (.ref s1), .val (.ref s1), .val (.int mq), .val (.int (0 : Int32)), .val (.double (0 : UInt64)), .second] [(.double (0 : UInt64))])) _
    jvm_step X28.here [X28.here.top, hx, (hb hby d1_87), Value.category]
    show Steps p.tables e below (T28.setTop (mkF m 88 #[.val (.ref t0), .val (.ref s0), .val (.ref s1), .val (.ref s1), .val (.int mq), .val (.int (0 : Int32)), .val (.double (0 : UInt64)), .second] [])) _
    refine XS.iinc X28.here hx rfl (hb hby d1_88) rfl (l' := #[.val (.ref t0), .val (.ref s0), .val (.ref s1), .val (.ref s1), .val (.int mq), .val (.int ((0 : Int32) + (1 : Int32))), .val (.double (0 : UInt64)), .second]) rfl ?_
    show Steps p.tables e below (T28.setTop (mkF m 91 #[.val (.ref t0), .val (.ref s0), .val (.ref s1), .val (.ref s1), .val (.int mq), .val (.int ((0 : Int32) + (1 : Int32))), .val (.double (0 : UInt64)), .second] [])) _
    rw [show ((0 : Int32) + (1 : Int32)) = (1 : Int32) by decide]
    show Steps p.tables e below (T28.setTop (mkF m 91 #[.val (.ref t0), .val (.ref s0), .val (.ref s1), .val (.ref s1), .val (.int mq), .val (.int (1 : Int32)), .val (.double (0 : UInt64)), .second] [])) _
    refine XS.goto X28.here hx rfl (pc0 := 91) (pc' := 69) rfl (hb hby d1_91) (by decide) (by decide) ?_
    refine XS.iload X28.here hx rfl (hb hby d1_69) rfl ?_
    refine XS.iload X28.here hx rfl (hb hby d1_71) rfl ?_
    refine XS.icmpNo X28.here hx rfl (hb hby d1_73) rfl (tlt hc73_1).2.1 ?_
    refine XS.aloadN X28.here hx rfl (hb hby d1_76) rfl rfl ?_
    show Steps p.tables e below (T28.setTop (mkF m 77 #[.val (.ref t0), .val (.ref s0), .val (.ref s1), .val (.ref s1), .val (.int mq), .val (.int (1 : Int32)), .val (.double (0 : UInt64)), .second] [(.ref s1)])) _
    refine XS.iload X28.here hx rfl (hb hby d1_77) rfl ?_
    refine X28.daload hx (j := (1 : Int32)) (v := (.double (0 : UInt64))) (by rw [e28]; exact Arq29.1) (State.isArrayOf_alike hZ2.alike Arq29.2.1) Arq29.2.2 (inb_of Sq29 hin79_1) (Has.at Hq29 (inb_of Sq29 hin79_1) rfl) (g := (mkF m 79 #[.val (.ref t0), .val (.ref s0), .val (.ref s1), .val (.ref s1), .val (.int mq), .val (.int (1 : Int32)), .val (.double (0 : UInt64)), .second] [(.int (1 : Int32)), (.ref s1)])) rfl rfl (hb hby d1_79) _ ?_
    show Steps p.tables e below (T28.setTop (mkF m 80 #[.val (.ref t0), .val (.ref s0), .val (.ref s1), .val (.ref s1), .val (.int mq), .val (.int (1 : Int32)), .val (.double (0 : UInt64)), .second] [(.double (0 : UInt64))])) _
    refine XS.dstore X28.here hx rfl (hb hby d1_80) rfl (l' := #[.val (.ref t0), .val (.ref s0), .val (.ref s1), .val (.ref s1), .val (.int mq), .val (.int (1 : Int32)), .val (.double (0 : UInt64)), .second]) rfl ?_
    refine XS.dload X28.here hx rfl (hb hby d1_82) rfl ?_
    refine st30 _ ?_
    show Steps p.tables e below (T30.setTop (mkF m 87 #[.val (.ref t0), .val (.ref s0), .val (.ref s1), .val (.ref s1), .val (.int mq), .val (.int (1 : Int32)), .val (.double (0 : UInt64)), .second] [(.double (0 : UInt64))])) _
    jvm_step X30.here [X30.here.top, hx, (hb hby d1_87), Value.category]
    show Steps p.tables e below (T30.setTop (mkF m 88 #[.val (.ref t0), .val (.ref s0), .val (.ref s1), .val (.ref s1), .val (.int mq), .val (.int (1 : Int32)), .val (.double (0 : UInt64)), .second] [])) _
    refine XS.iinc X30.here hx rfl (hb hby d1_88) rfl (l' := #[.val (.ref t0), .val (.ref s0), .val (.ref s1), .val (.ref s1), .val (.int mq), .val (.int ((1 : Int32) + (1 : Int32))), .val (.double (0 : UInt64)), .second]) rfl ?_
    show Steps p.tables e below (T30.setTop (mkF m 91 #[.val (.ref t0), .val (.ref s0), .val (.ref s1), .val (.ref s1), .val (.int mq), .val (.int ((1 : Int32) + (1 : Int32))), .val (.double (0 : UInt64)), .second] [])) _
    rw [show ((1 : Int32) + (1 : Int32)) = (2 : Int32) by decide]
    show Steps p.tables e below (T30.setTop (mkF m 91 #[.val (.ref t0), .val (.ref s0), .val (.ref s1), .val (.ref s1), .val (.int mq), .val (.int (2 : Int32)), .val (.double (0 : UInt64)), .second] [])) _
    refine XS.goto X30.here hx rfl (pc0 := 91) (pc' := 69) rfl (hb hby d1_91) (by decide) (by decide) ?_
    refine XS.iload X30.here hx rfl (hb hby d1_69) rfl ?_
    refine XS.iload X30.here hx rfl (hb hby d1_71) rfl ?_
    refine XS.icmpYes X30.here hx rfl (pc0 := 73) (pc' := 94) rfl (hb hby d1_73) rfl (flt hc73_2).2.1 (by decide) (by decide) ?_
    show Steps p.tables e below (T30.setTop (mkF m 94 #[.val (.ref t0), .val (.ref s0), .val (.ref s1), .val (.ref s1), .val (.int mq), .val (.int (2 : Int32)), .val (.double (0 : UInt64)), .second] [])) _
    exact X30.returnOut hx Bd.returns (hb hby d1_94) hr
  · show Q_ini02 Z t0 s0 s1 nq ka mq kb h0 n0 _ T30.heap _
    rw [e30]
    exact ⟨rfl, N30, K18, f19, f20, f24⟩
def Q_ini03 (Z : State) (t0 : Addr) (s0 : Addr) (s1 : Addr) (nq : Int32) (ka : ClassId) (mq : Int32) (kb : ClassId) (h0 : Heap) (n0 : Nat) (v : Option Value) (h : Heap) (L : List Loc) : Prop := v = none ∧ Fr n0 L ∧ Keep h0 h [t0] ∧ Exa Z h t0 "com/example/hedge/hedge/RewardStructure" ∧ Fld Z h t0 "com/example/hedge/hedge/RewardStructure" "state" "[D" (.ref s0) ∧ Fld Z h t0 "com/example/hedge/hedge/RewardStructure" "transition" "[D" (.ref s1)
set_option maxRecDepth 65536 in
set_option maxHeartbeats 40000000 in
theorem ini03 (l : Launch) (Z : State) (a0 : Array Value) (hw : ∀ d ∈ tables_1, d.before a0 Z = true) (ws : List Jvm.Cond) (t0 : Addr) (s0 : Addr) (s1 : Addr) (nq : Int32) (ka : ClassId) (mq : Int32) (kb : ClassId) (h0 : Heap) (n0 : Nat) (Z0 : n0 ≤ h0.size) (E_t0 : Exa Z h0 t0 "com/example/hedge/hedge/RewardStructure") (g_t0 : n0 ≤ t0) (F_state_t0 : Fld Z h0 t0 "com/example/hedge/hedge/RewardStructure" "state" "[D" .null) (F_transition_t0 : Fld Z h0 t0 "com/example/hedge/hedge/RewardStructure" "transition" "[D" .null) (E_s0 : Exa Z h0 s0 "[D") (V_s0 : Arv Z h0 s0 ka .double nq [] (.double (0 : UInt64))) (V_s1 : Arv Z h0 s1 kb .double mq [] (.double (0 : UInt64))) (ne_t0_s0 : t0 ≠ s0) (ne_t0_s1 : t0 ≠ s1) (hc35 : ¬ ((0 : Int32) < nq)) (hc73 : (0 : Int32) < mq) (hin79 : ¬ (0 : Int32) < 0 ∧ (0 : Int32) < mq) (hc73_1 : (1 : Int32) < mq) (hin79_1 : ¬ (1 : Int32) < 0 ∧ (1 : Int32) < mq) (hc73_2 : (2 : Int32) < mq) (hin79_2 : ¬ (2 : Int32) < 0 ∧ (2 : Int32) < mq) (hc73_3 : ¬ ((3 : Int32) < mq)) :
    MetFree l (⟨"com/example/hedge/hedge/RewardStructure", "<init>", "([D[D)V"⟩ : MethodName) (head1 (Jvm.Cond.code (⟨"com/example/hedge/hedge/RewardStructure", "<init>", "([D[D)V"⟩ : MethodName) prog_30_method_1_code 8 none :: ws) ({ frames := 1, cells := 2, slots := 24, locals := 14 } : Room)) (fun a U => a = #[(.ref t0), (.ref s0), (.ref s1)] ∧ Z.Warmed39 U.vm ∧ U.heap = h0) (fun _ _ _ _ _ => True) (fun _ U o U' => ∃ v L, o = .returned v ∧ Q_ini03 Z t0 s0 s1 nq ka mq kb h0 n0 v U'.heap L ∧ ReturnedEndW U o U' L ({ frames := 1, cells := 2, slots := 24, locals := 14 } : Room).cells ({ frames := 1, cells := 2, slots := 24, locals := 14 } : Room).slots) := by
  refine MetFree.of_bodySF (plainFor_of_name pn_com_example_hedge_hedge_RewardStructure) hisR ?_
  intro p e s m args below meth c s₁ Bd hml0 hP hK
  obtain ⟨rfl, hZ, hh⟩ := hP
  have hx := Bd.exec
  have hby := Bd.bytes
  have hml : c.maxLocals = 8 := hml0
  have hown : s.vm.findClass "com/example/hedge/hedge/RewardStructure" = some m.cls := findClass_of_methodNamed Bd.named
  have hnm := (name_of_methodNamed Bd.named Bd.method).1
  have X0 : Stand p l e ({ frames := 1, cells := 2, slots := 24, locals := 14 } : Room) s m #[(.ref t0), (.ref s0), (.ref s1)] below meth c s₁ [] 0 0 := Stand.of_body Bd
  have e0 : s₁.heap = h0 := by rw [← hh, Bd.state]; rfl
  have N0 := Fr.nil n0
  have pre0 : ∀ t, Steps p.tables e below (s₁.setTop (mkF m 0 #[.val (.ref t0), .val (.ref s0), .val (.ref s1), .unset, .unset, .unset, .unset, .unset] [])) t → Steps p.tables e below (s₁.setTop (entryFrame m #[(.ref t0), (.ref s0), (.ref s1)] 8)) t := fun t k => castTop (ef_1_RRR m t0 s0 s1) k
  obtain ⟨vm0, k00, X0, hS0, hk0, hZ0, hown0⟩ := own_W0 X0 e0 hZ hown
  obtain ⟨T1, X1, e1, st1⟩ := initO X0 hx hZ0 hown0 (hw _ (List.mem_of_getElem? (i := 7) rfl)) (hw _ (List.mem_of_getElem? (i := 8) rfl)) (hw _ (List.mem_of_getElem? (i := 9) rfl)) e0 (g := (mkF m 1 #[.val (.ref t0), .val (.ref s0), .val (.ref s1), .unset, .unset, .unset, .unset, .unset] [(.ref t0)])) rfl (by rw [hml]; rfl) rfl (hb hby d1_1) (by decide) (W := 0) (by show 2 * 0 + _ ≤ _; exact Nat.le_of_eq rfl) (by decide)
  obtain ⟨a2, T2, h2, kq2, X2, e2, E2, hS2, hkq2, hZ2, hown2, st2⟩ := ldcS X1 hx hZ0 hown0 (hw _ (List.mem_of_getElem? (i := 10) rfl)) (own_satoms hw) e1 hS0 hk0 (g := (mkF m 6 #[.val (.ref t0), .val (.ref s0), .val (.ref s1), .unset, .unset, .unset, .unset, .unset] [(.ref s0), (.ref t0)])) rfl (hb hby d1_6) (n := 20) (by decide) (by decide) (by decide) (by decide)
  have f3 := E_t0.ext E2
  have f4 := F_state_t0.ext E2
  have f5 := F_transition_t0.ext E2
  have f6 := E_s0.ext E2
  have f7 := V_s0.ext E2
  have f8 := V_s1.ext E2
  have K2 : Keep h0 h2 [t0] := (Keep.refl h0 [t0]).ext E2
  have Zs2 := Nat.le_trans Z0 E2.1
  have hk2 := Nat.le_trans hk0 E2.1
  obtain ⟨_, _, ⟨T9, L9, k9, n9⟩, -, X9, ⟨Lc9, hQ9, lq9, yq9, zq9⟩, st9⟩ := Jvm.LawKit.callS X2 hx (y := (⟨"java/util/Objects", "requireNonNull", "(Ljava/lang/Object;Ljava/lang/String;)Ljava/lang/Object;"⟩ : MethodName)) hown2 (mvT hZ2 (hw _ (List.mem_of_getElem? (i := 18) rfl))) (mvT hZ2 (hw _ (List.mem_of_getElem? (i := 19) rfl))) (mvT hZ2 (hw _ (List.mem_of_getElem? (i := 20) rfl))) (mvT hZ2 (hw _ (List.mem_of_getElem? (i := 21) rfl))) (by decide) (backOf (W := 1) (rn l Z a0 hw [] s0 a2 h2 n0 Zs2 ) hZ2 (hw _ (List.mem_of_getElem? (i := 21) rfl)) (hw _ (List.mem_of_getElem? (i := 20) rfl)) (by decide) (by decide)) (g := (mkF m 8 #[.val (.ref t0), .val (.ref s0), .val (.ref s1), .unset, .unset, .unset, .unset, .unset] [(.ref a2), (.ref s0), (.ref t0)])) rfl (by rw [hml]; rfl) (argsL := [(.ref s0), (.ref a2)]) (rest := [(.ref t0)]) (lenOf pd_0 rfl) rfl (by show 2 * 0 + _ ≤ _; exact Nat.le_of_eq rfl) (hb hby d1_8) (fun _ _ => ⟨rfl, e2, (by decide : 2 + 0 ≤ _), (by decide : 24 + 0 ≤ _)⟩)
  dsimp only [Pt.U, Pt.locs, Pt.cells, Pt.slots] at X9 lq9 yq9 zq9 st9 hQ9
  rw [lq9, yq9, zq9] at X9
  obtain ⟨rfl, N9q, eh9⟩ := hQ9
  have N9 := Fr.app N0 N9q
  have e9 : T9.heap = h2 := eh9
  obtain ⟨T10, X10, e10, st10⟩ := castY X9 hx hZ2 hown2 (hw _ (List.mem_of_getElem? (i := 22) rfl)) e9 (Ins.self f6) (g := (mkF m 11 #[.val (.ref t0), .val (.ref s0), .val (.ref s1), .unset, .unset, .unset, .unset, .unset] [(.ref s0), (.ref t0)])) rfl rfl (hb hby d1_11)
  obtain ⟨T11, h11, X11, e11, W11, st11⟩ := putF X10 hx hZ2 hown2 (host := "") (Or.inl (hw _ (List.mem_of_getElem? (i := 24) rfl))) Via.refl e10 f4 f3 (Or.inr ⟨(hw _ (List.mem_of_getElem? (i := 25) rfl)), rfl, hnm⟩) (hw _ (List.mem_of_getElem? (i := 2) rfl)) (ty := (.array .double)) (by decide) rfl rfl (g := (mkF m 14 #[.val (.ref t0), .val (.ref s0), .val (.ref s1), .unset, .unset, .unset, .unset, .unset] [(.ref s0), (.ref t0)])) rfl rfl (hb hby d1_14)
  have f12 := f3.wr W11
  have f13 := f5.other W11 (Or.inr (so_RewardStructure_transition_state hw))
  have f14 := f6.wr W11
  have f15 := f7.other W11 (Ne.symm ne_t0_s0)
  have f16 := f8.other W11 (Ne.symm ne_t0_s1)
  have K11 : Keep h0 h11 [t0] := K2.wr W11 (Or.inl (List.mem_of_getElem? (i := 0) rfl))
  have Zs11 := Nat.le_trans Zs2 (Keep.of_wr W11).1
  have hk11 := Nat.le_trans hkq2 (Keep.of_wr W11).1
  have N11 := Fr.snoc X11 N9 g_t0
  have f17 : Fld Z h11 t0 "com/example/hedge/hedge/RewardStructure" "state" "[D" (.ref s0) := f4.same W11
  obtain ⟨T18, h18, X18, e18, W18, st18⟩ := putF X11 hx hZ2 hown2 (host := "") (Or.inl (hw _ (List.mem_of_getElem? (i := 26) rfl))) Via.refl e11 f13 f12 (Or.inr ⟨(hw _ (List.mem_of_getElem? (i := 27) rfl)), rfl, hnm⟩) (hw _ (List.mem_of_getElem? (i := 2) rfl)) (ty := (.array .double)) (by decide) rfl rfl (g := (mkF m 19 #[.val (.ref t0), .val (.ref s0), .val (.ref s1), .unset, .unset, .unset, .unset, .unset] [(.ref s1), (.ref t0)])) rfl rfl (hb hby d1_19)
  have f19 := f12.wr W18
  have f20 := f17.other W18 (Or.inr (so_RewardStructure_state_transition hw))
  have f21 := f14.wr W18
  have f22 := f15.other W18 (Ne.symm ne_t0_s0)
  have f23 := f16.other W18 (Ne.symm ne_t0_s1)
  have K18 : Keep h0 h18 [t0] := K11.wr W18 (Or.inl (List.mem_of_getElem? (i := 0) rfl))
  have Zs18 := Nat.le_trans Zs11 (Keep.of_wr W18).1
  have hk18 := Nat.le_trans hk11 (Keep.of_wr W18).1
  have N18 := Fr.snoc X18 N11 g_t0
  have f24 : Fld Z h18 t0 "com/example/hedge/hedge/RewardStructure" "transition" "[D" (.ref s1) := f13.same W18
  obtain ⟨cq25, Arq25, -, Sq25, Nq25, -, -⟩ := id f22
  obtain ⟨cq26, Arq26, -, Sq26, Nq26, -, -⟩ := id f23
  obtain ⟨cq27, Arq27, -, Sq27, -, Hq27, -⟩ := id f23
  obtain ⟨_, _, ⟨T28, L28, k28, n28⟩, -, X28, ⟨Lc28, hQ28, lq28, yq28, zq28⟩, st28⟩ := Jvm.LawKit.callS X18 hx (y := (⟨"com/example/hedge/hedge/RewardStructure", "checkReward", "(D)D"⟩ : MethodName)) hown2 (mvT hZ2 (hw _ (List.mem_of_getElem? (i := 33) rfl))) (mvT hZ2 (hw _ (List.mem_of_getElem? (i := 34) rfl))) (mvT hZ2 (hw _ (List.mem_of_getElem? (i := 3) rfl))) (mvT hZ2 (hw _ (List.mem_of_getElem? (i := 35) rfl))) (by decide) (backOf (W := 0) (cr l Z a0 hw []  h18 n0 Zs18 ) hZ2 (hw _ (List.mem_of_getElem? (i := 35) rfl)) (hw _ (List.mem_of_getElem? (i := 3) rfl)) (by decide) (by decide)) (g := (mkF m 84 #[.val (.ref t0), .val (.ref s0), .val (.ref s1), .val (.ref s1), .val (.int mq), .val (.int (0 : Int32)), .val (.double (0 : UInt64)), .second] [(.double (0 : UInt64))])) rfl (by rw [hml]; rfl) (argsL := [(.double (0 : UInt64))]) (rest := []) (lenOf pd_1 rfl) rfl (by show 2 * 0 + _ ≤ _; exact Nat.le_of_eq rfl) (hb hby d1_84) (fun _ _ => ⟨rfl, e18, (by decide : 2 + 0 ≤ _), (by decide : 24 + 0 ≤ _)⟩)
  dsimp only [Pt.U, Pt.locs, Pt.cells, Pt.slots] at X28 lq28 yq28 zq28 st28 hQ28
  rw [lq28, yq28, zq28] at X28
  obtain ⟨rfl, N28q, eh28⟩ := hQ28
  have N28 := Fr.app N18 N28q
  have e28 : T28.heap = h18 := eh28
  obtain ⟨cq29, Arq29, -, Sq29, -, Hq29, -⟩ := id f23
  obtain ⟨_, _, ⟨T30, L30, k30, n30⟩, -, X30, ⟨Lc30, hQ30, lq30, yq30, zq30⟩, st30⟩ := Jvm.LawKit.callS X28 hx (y := (⟨"com/example/hedge/hedge/RewardStructure", "checkReward", "(D)D"⟩ : MethodName)) hown2 (mvT hZ2 (hw _ (List.mem_of_getElem? (i := 33) rfl))) (mvT hZ2 (hw _ (List.mem_of_getElem? (i := 34) rfl))) (mvT hZ2 (hw _ (List.mem_of_getElem? (i := 3) rfl))) (mvT hZ2 (hw _ (List.mem_of_getElem? (i := 35) rfl))) (by decide) (backOf (W := 0) (cr l Z a0 hw []  h18 n0 Zs18 ) hZ2 (hw _ (List.mem_of_getElem? (i := 35) rfl)) (hw _ (List.mem_of_getElem? (i := 3) rfl)) (by decide) (by decide)) (g := (mkF m 84 #[.val (.ref t0), .val (.ref s0), .val (.ref s1), .val (.ref s1), .val (.int mq), .val (.int (1 : Int32)), .val (.double (0 : UInt64)), .second] [(.double (0 : UInt64))])) rfl (by rw [hml]; rfl) (argsL := [(.double (0 : UInt64))]) (rest := []) (lenOf pd_1 rfl) rfl (by show 2 * 0 + _ ≤ _; exact Nat.le_of_eq rfl) (hb hby d1_84) (fun _ _ => ⟨rfl, e28, (by decide : 2 + 0 ≤ _), (by decide : 24 + 0 ≤ _)⟩)
  dsimp only [Pt.U, Pt.locs, Pt.cells, Pt.slots] at X30 lq30 yq30 zq30 st30 hQ30
  rw [lq30, yq30, zq30] at X30
  obtain ⟨rfl, N30q, eh30⟩ := hQ30
  have N30 := Fr.app N28 N30q
  have e30 : T30.heap = h18 := eh30
  obtain ⟨cq31, Arq31, -, Sq31, -, Hq31, -⟩ := id f23
  obtain ⟨_, _, ⟨T32, L32, k32, n32⟩, -, X32, ⟨Lc32, hQ32, lq32, yq32, zq32⟩, st32⟩ := Jvm.LawKit.callS X30 hx (y := (⟨"com/example/hedge/hedge/RewardStructure", "checkReward", "(D)D"⟩ : MethodName)) hown2 (mvT hZ2 (hw _ (List.mem_of_getElem? (i := 33) rfl))) (mvT hZ2 (hw _ (List.mem_of_getElem? (i := 34) rfl))) (mvT hZ2 (hw _ (List.mem_of_getElem? (i := 3) rfl))) (mvT hZ2 (hw _ (List.mem_of_getElem? (i := 35) rfl))) (by decide) (backOf (W := 0) (cr l Z a0 hw []  h18 n0 Zs18 ) hZ2 (hw _ (List.mem_of_getElem? (i := 35) rfl)) (hw _ (List.mem_of_getElem? (i := 3) rfl)) (by decide) (by decide)) (g := (mkF m 84 #[.val (.ref t0), .val (.ref s0), .val (.ref s1), .val (.ref s1), .val (.int mq), .val (.int (2 : Int32)), .val (.double (0 : UInt64)), .second] [(.double (0 : UInt64))])) rfl (by rw [hml]; rfl) (argsL := [(.double (0 : UInt64))]) (rest := []) (lenOf pd_1 rfl) rfl (by show 2 * 0 + _ ≤ _; exact Nat.le_of_eq rfl) (hb hby d1_84) (fun _ _ => ⟨rfl, e30, (by decide : 2 + 0 ≤ _), (by decide : 24 + 0 ≤ _)⟩)
  dsimp only [Pt.U, Pt.locs, Pt.cells, Pt.slots] at X32 lq32 yq32 zq32 st32 hQ32
  rw [lq32, yq32, zq32] at X32
  obtain ⟨rfl, N32q, eh32⟩ := hQ32
  have N32 := Fr.app N30 N32q
  have e32 : T32.heap = h18 := eh32
  obtain ⟨fs, hr, hrun, hended, hRW⟩ := X32.leaveW hS2 (by rw [e32]; exact hk18) (v := none) (fun _ => rfl)
  refine ⟨_, _, pre0 _ ?_, hrun, hended, _, _, rfl, ?_, ⟨_, rfl⟩, hRW.2.1, hRW.2.2.1, hRW.2.2.2.mono (by decide) (by decide)⟩
  · show Steps p.tables e below (s₁.setTop (mkF m 0 #[.val (.ref t0), .val (.ref s0), .val (.ref s1), .unset, .unset, .unset, .unset, .unset] [])) _
    refine XS.aloadN X0.here hx rfl (hb hby d1_0) rfl rfl ?_
    refine st1 _ ?_
    show Steps p.tables e below (T1.setTop (mkF m 4 #[.val (.ref t0), .val (.ref s0), .val (.ref s1), .unset, .unset, .unset, .unset, .unset] [])) _
    refine XS.aloadN X1.here hx rfl (hb hby d1_4) rfl rfl ?_
    refine XS.aloadN X1.here hx rfl (hb hby d1_5) rfl rfl ?_
    refine st2 _ ?_
    show Steps p.tables e below (T2.setTop (mkF m 8 #[.val (.ref t0), .val (.ref s0), .val (.ref s1), .unset, .unset, .unset, .unset, .unset] [(.ref a2), (.ref s0), (.ref t0)])) _
    refine st9 _ ?_
    show Steps p.tables e below (T9.setTop (mkF m 11 #[.val (.ref t0), .val (.ref s0), .val (.ref s1), .unset, .unset, .unset, .unset, .unset] [(.ref s0), (.ref t0)])) _
    refine st10 _ ?_
    show Steps p.tables e below (T10.setTop (mkF m 14 #[.val (.ref t0), .val (.ref s0), .val (.ref s1), .unset, .unset, .unset, .unset, .unset] [(.ref s0), (.ref t0)])) _
    refine st11 _ ?_
    show Steps p.tables e below (T11.setTop (mkF m 17 #[.val (.ref t0), .val (.ref s0), .val (.ref s1), .unset, .unset, .unset, .unset, .unset] [])) _
    refine XS.aloadN X11.here hx rfl (hb hby d1_17) rfl rfl ?_
    refine XS.aloadN X11.here hx rfl (hb hby d1_18) rfl rfl ?_
    refine st18 _ ?_
    show Steps p.tables e below (T18.setTop (mkF m 22 #[.val (.ref t0), .val (.ref s0), .val (.ref s1), .unset, .unset, .unset, .unset, .unset] [])) _
    refine XS.aloadN X18.here hx rfl (hb hby d1_22) rfl rfl ?_
    refine XS.astoreN X18.here hx rfl (hb hby d1_23) rfl rfl (l' := #[.val (.ref t0), .val (.ref s0), .val (.ref s1), .val (.ref s0), .unset, .unset, .unset, .unset]) rfl ?_
    refine XS.aloadN X18.here hx rfl (hb hby d1_24) rfl rfl ?_
    refine X18.arraylength hx (by rw [e18]; exact Arq25.1) (State.isArrayOf_alike hZ2.alike Arq25.2.1) (g := (mkF m 25 #[.val (.ref t0), .val (.ref s0), .val (.ref s1), .val (.ref s0), .unset, .unset, .unset, .unset] [(.ref s0)])) rfl rfl (hb hby d1_25) _ ?_
    rw [len_of Sq25 Nq25]
    show Steps p.tables e below (T18.setTop (mkF m 26 #[.val (.ref t0), .val (.ref s0), .val (.ref s1), .val (.ref s0), .unset, .unset, .unset, .unset] [(.int nq)])) _
    refine XS.istore X18.here hx rfl (hb hby d1_26) rfl (l' := #[.val (.ref t0), .val (.ref s0), .val (.ref s1), .val (.ref s0), .val (.int nq), .unset, .unset, .unset]) rfl ?_
    refine XS.iconst X18.here hx rfl (hb hby d1_28) ?_
    show Steps p.tables e below (T18.setTop (mkF m 29 #[.val (.ref t0), .val (.ref s0), .val (.ref s1), .val (.ref s0), .val (.int nq), .unset, .unset, .unset] [(.int (0 : Int32))])) _
    refine XS.istore X18.here hx rfl (hb hby d1_29) rfl (l' := #[.val (.ref t0), .val (.ref s0), .val (.ref s1), .val (.ref s0), .val (.int nq), .val (.int (0 : Int32)), .unset, .unset]) rfl ?_
    refine XS.iload X18.here hx rfl (hb hby d1_31) rfl ?_
    refine XS.iload X18.here hx rfl (hb hby d1_33) rfl ?_
    refine XS.icmpYes X18.here hx rfl (pc0 := 35) (pc' := 56) rfl (hb hby d1_35) rfl (flt hc35).2.1 (by decide) (by decide) ?_
    refine XS.aloadN X18.here hx rfl (hb hby d1_56) rfl rfl ?_
    refine XS.ifnullNo X18.here hx rfl (hb hby d1_57) rfl ?_
    show Steps p.tables e below (T18.setTop (mkF m 60 #[.val (.ref t0), .val (.ref s0), .val (.ref s1), .val (.ref s0), .val (.int nq), .val (.int (0 : Int32)), .unset, .unset] [])) _
    refine XS.aloadN X18.here hx rfl (hb hby d1_60) rfl rfl ?_
    refine XS.astoreN X18.here hx rfl (hb hby d1_61) rfl rfl (l' := #[.val (.ref t0), .val (.ref s0), .val (.ref s1), .val (.ref s1), .val (.int nq), .val (.int (0 : Int32)), .unset, .unset]) rfl ?_
    refine XS.aloadN X18.here hx rfl (hb hby d1_62) rfl rfl ?_
    refine X18.arraylength hx (by rw [e18]; exact Arq26.1) (State.isArrayOf_alike hZ2.alike Arq26.2.1) (g := (mkF m 63 #[.val (.ref t0), .val (.ref s0), .val (.ref s1), .val (.ref s1), .val (.int nq), .val (.int (0 : Int32)), .unset, .unset] [(.ref s1)])) rfl rfl (hb hby d1_63) _ ?_
    rw [len_of Sq26 Nq26]
    show Steps p.tables e below (T18.setTop (mkF m 64 #[.val (.ref t0), .val (.ref s0), .val (.ref s1), .val (.ref s1), .val (.int nq), .val (.int (0 : Int32)), .unset, .unset] [(.int mq)])) _
    refine XS.istore X18.here hx rfl (hb hby d1_64) rfl (l' := #[.val (.ref t0), .val (.ref s0), .val (.ref s1), .val (.ref s1), .val (.int mq), .val (.int (0 : Int32)), .unset, .unset]) rfl ?_
    refine XS.iconst X18.here hx rfl (hb hby d1_66) ?_
    show Steps p.tables e below (T18.setTop (mkF m 67 #[.val (.ref t0), .val (.ref s0), .val (.ref s1), .val (.ref s1), .val (.int mq), .val (.int (0 : Int32)), .unset, .unset] [(.int (0 : Int32))])) _
    refine XS.istore X18.here hx rfl (hb hby d1_67) rfl (l' := #[.val (.ref t0), .val (.ref s0), .val (.ref s1), .val (.ref s1), .val (.int mq), .val (.int (0 : Int32)), .unset, .unset]) rfl ?_
    refine XS.iload X18.here hx rfl (hb hby d1_69) rfl ?_
    refine XS.iload X18.here hx rfl (hb hby d1_71) rfl ?_
    refine XS.icmpNo X18.here hx rfl (hb hby d1_73) rfl (tlt hc73).2.1 ?_
    refine XS.aloadN X18.here hx rfl (hb hby d1_76) rfl rfl ?_
    refine XS.iload X18.here hx rfl (hb hby d1_77) rfl ?_
    show Steps p.tables e below (T18.setTop (mkF m 79 #[.val (.ref t0), .val (.ref s0), .val (.ref s1), .val (.ref s1), .val (.int mq), .val (.int (0 : Int32)), .unset, .unset] [(.int (0 : Int32)), (.ref s1)])) _
    refine X18.daload hx (j := (0 : Int32)) (v := (.double (0 : UInt64))) (by rw [e18]; exact Arq27.1) (State.isArrayOf_alike hZ2.alike Arq27.2.1) Arq27.2.2 (inb_of Sq27 hin79) (Has.at Hq27 (inb_of Sq27 hin79) rfl) (g := (mkF m 79 #[.val (.ref t0), .val (.ref s0), .val (.ref s1), .val (.ref s1), .val (.int mq), .val (.int (0 : Int32)), .unset, .unset] [(.int (0 : Int32)), (.ref s1)])) rfl rfl (hb hby d1_79) _ ?_
    show Steps p.tables e below (T18.setTop (mkF m 80 #[.val (.ref t0), .val (.ref s0), .val (.ref s1), .val (.ref s1), .val (.int mq), .val (.int (0 : Int32)), .unset, .unset] [(.double (0 : UInt64))])) _
    refine XS.dstore X18.here hx rfl (hb hby d1_80) rfl (l' := #[.val (.ref t0), .val (.ref s0), .val (.ref s1), .val (.ref s1), .val (.int mq), .val (.int (0 : Int32)), .val (.double (0 : UInt64)), .second]) rfl ?_
    refine XS.dload X18.here hx rfl (hb hby d1_82) rfl ?_
    refine st28 _ ?_
    show Steps p.tables e below (T28.setTop (mkF m 87 #[.val (.ref t0), .val (.ref s0), .val (.ref s1), .val (.ref s1), .val (.int mq), .val (.int (0 : Int32)), .val (.double (0 : UInt64)), .second] [(.double (0 : UInt64))])) _
    jvm_step X28.here [X28.here.top, hx, (hb hby d1_87), Value.category]
    show Steps p.tables e below (T28.setTop (mkF m 88 #[.val (.ref t0), .val (.ref s0), .val (.ref s1), .val (.ref s1), .val (.int mq), .val (.int (0 : Int32)), .val (.double (0 : UInt64)), .second] [])) _
    refine XS.iinc X28.here hx rfl (hb hby d1_88) rfl (l' := #[.val (.ref t0), .val (.ref s0), .val (.ref s1), .val (.ref s1), .val (.int mq), .val (.int ((0 : Int32) + (1 : Int32))), .val (.double (0 : UInt64)), .second]) rfl ?_
    show Steps p.tables e below (T28.setTop (mkF m 91 #[.val (.ref t0), .val (.ref s0), .val (.ref s1), .val (.ref s1), .val (.int mq), .val (.int ((0 : Int32) + (1 : Int32))), .val (.double (0 : UInt64)), .second] [])) _
    rw [show ((0 : Int32) + (1 : Int32)) = (1 : Int32) by decide]
    show Steps p.tables e below (T28.setTop (mkF m 91 #[.val (.ref t0), .val (.ref s0), .val (.ref s1), .val (.ref s1), .val (.int mq), .val (.int (1 : Int32)), .val (.double (0 : UInt64)), .second] [])) _
    refine XS.goto X28.here hx rfl (pc0 := 91) (pc' := 69) rfl (hb hby d1_91) (by decide) (by decide) ?_
    refine XS.iload X28.here hx rfl (hb hby d1_69) rfl ?_
    refine XS.iload X28.here hx rfl (hb hby d1_71) rfl ?_
    refine XS.icmpNo X28.here hx rfl (hb hby d1_73) rfl (tlt hc73_1).2.1 ?_
    refine XS.aloadN X28.here hx rfl (hb hby d1_76) rfl rfl ?_
    show Steps p.tables e below (T28.setTop (mkF m 77 #[.val (.ref t0), .val (.ref s0), .val (.ref s1), .val (.ref s1), .val (.int mq), .val (.int (1 : Int32)), .val (.double (0 : UInt64)), .second] [(.ref s1)])) _
    refine XS.iload X28.here hx rfl (hb hby d1_77) rfl ?_
    refine X28.daload hx (j := (1 : Int32)) (v := (.double (0 : UInt64))) (by rw [e28]; exact Arq29.1) (State.isArrayOf_alike hZ2.alike Arq29.2.1) Arq29.2.2 (inb_of Sq29 hin79_1) (Has.at Hq29 (inb_of Sq29 hin79_1) rfl) (g := (mkF m 79 #[.val (.ref t0), .val (.ref s0), .val (.ref s1), .val (.ref s1), .val (.int mq), .val (.int (1 : Int32)), .val (.double (0 : UInt64)), .second] [(.int (1 : Int32)), (.ref s1)])) rfl rfl (hb hby d1_79) _ ?_
    show Steps p.tables e below (T28.setTop (mkF m 80 #[.val (.ref t0), .val (.ref s0), .val (.ref s1), .val (.ref s1), .val (.int mq), .val (.int (1 : Int32)), .val (.double (0 : UInt64)), .second] [(.double (0 : UInt64))])) _
    refine XS.dstore X28.here hx rfl (hb hby d1_80) rfl (l' := #[.val (.ref t0), .val (.ref s0), .val (.ref s1), .val (.ref s1), .val (.int mq), .val (.int (1 : Int32)), .val (.double (0 : UInt64)), .second]) rfl ?_
    refine XS.dload X28.here hx rfl (hb hby d1_82) rfl ?_
    refine st30 _ ?_
    show Steps p.tables e below (T30.setTop (mkF m 87 #[.val (.ref t0), .val (.ref s0), .val (.ref s1), .val (.ref s1), .val (.int mq), .val (.int (1 : Int32)), .val (.double (0 : UInt64)), .second] [(.double (0 : UInt64))])) _
    jvm_step X30.here [X30.here.top, hx, (hb hby d1_87), Value.category]
    show Steps p.tables e below (T30.setTop (mkF m 88 #[.val (.ref t0), .val (.ref s0), .val (.ref s1), .val (.ref s1), .val (.int mq), .val (.int (1 : Int32)), .val (.double (0 : UInt64)), .second] [])) _
    refine XS.iinc X30.here hx rfl (hb hby d1_88) rfl (l' := #[.val (.ref t0), .val (.ref s0), .val (.ref s1), .val (.ref s1), .val (.int mq), .val (.int ((1 : Int32) + (1 : Int32))), .val (.double (0 : UInt64)), .second]) rfl ?_
    show Steps p.tables e below (T30.setTop (mkF m 91 #[.val (.ref t0), .val (.ref s0), .val (.ref s1), .val (.ref s1), .val (.int mq), .val (.int ((1 : Int32) + (1 : Int32))), .val (.double (0 : UInt64)), .second] [])) _
    rw [show ((1 : Int32) + (1 : Int32)) = (2 : Int32) by decide]
    show Steps p.tables e below (T30.setTop (mkF m 91 #[.val (.ref t0), .val (.ref s0), .val (.ref s1), .val (.ref s1), .val (.int mq), .val (.int (2 : Int32)), .val (.double (0 : UInt64)), .second] [])) _
    refine XS.goto X30.here hx rfl (pc0 := 91) (pc' := 69) rfl (hb hby d1_91) (by decide) (by decide) ?_
    refine XS.iload X30.here hx rfl (hb hby d1_69) rfl ?_
    refine XS.iload X30.here hx rfl (hb hby d1_71) rfl ?_
    refine XS.icmpNo X30.here hx rfl (hb hby d1_73) rfl (tlt hc73_2).2.1 ?_
    show Steps p.tables e below (T30.setTop (mkF m 76 #[.val (.ref t0), .val (.ref s0), .val (.ref s1), .val (.ref s1), .val (.int mq), .val (.int (2 : Int32)), .val (.double (0 : UInt64)), .second] [])) _
    refine XS.aloadN X30.here hx rfl (hb hby d1_76) rfl rfl ?_
    refine XS.iload X30.here hx rfl (hb hby d1_77) rfl ?_
    refine X30.daload hx (j := (2 : Int32)) (v := (.double (0 : UInt64))) (by rw [e30]; exact Arq31.1) (State.isArrayOf_alike hZ2.alike Arq31.2.1) Arq31.2.2 (inb_of Sq31 hin79_2) (Has.at Hq31 (inb_of Sq31 hin79_2) rfl) (g := (mkF m 79 #[.val (.ref t0), .val (.ref s0), .val (.ref s1), .val (.ref s1), .val (.int mq), .val (.int (2 : Int32)), .val (.double (0 : UInt64)), .second] [(.int (2 : Int32)), (.ref s1)])) rfl rfl (hb hby d1_79) _ ?_
    show Steps p.tables e below (T30.setTop (mkF m 80 #[.val (.ref t0), .val (.ref s0), .val (.ref s1), .val (.ref s1), .val (.int mq), .val (.int (2 : Int32)), .val (.double (0 : UInt64)), .second] [(.double (0 : UInt64))])) _
    refine XS.dstore X30.here hx rfl (hb hby d1_80) rfl (l' := #[.val (.ref t0), .val (.ref s0), .val (.ref s1), .val (.ref s1), .val (.int mq), .val (.int (2 : Int32)), .val (.double (0 : UInt64)), .second]) rfl ?_
    refine XS.dload X30.here hx rfl (hb hby d1_82) rfl ?_
    refine st32 _ ?_
    show Steps p.tables e below (T32.setTop (mkF m 87 #[.val (.ref t0), .val (.ref s0), .val (.ref s1), .val (.ref s1), .val (.int mq), .val (.int (2 : Int32)), .val (.double (0 : UInt64)), .second] [(.double (0 : UInt64))])) _
    jvm_step X32.here [X32.here.top, hx, (hb hby d1_87), Value.category]
    show Steps p.tables e below (T32.setTop (mkF m 88 #[.val (.ref t0), .val (.ref s0), .val (.ref s1), .val (.ref s1), .val (.int mq), .val (.int (2 : Int32)), .val (.double (0 : UInt64)), .second] [])) _
    refine XS.iinc X32.here hx rfl (hb hby d1_88) rfl (l' := #[.val (.ref t0), .val (.ref s0), .val (.ref s1), .val (.ref s1), .val (.int mq), .val (.int ((2 : Int32) + (1 : Int32))), .val (.double (0 : UInt64)), .second]) rfl ?_
    show Steps p.tables e below (T32.setTop (mkF m 91 #[.val (.ref t0), .val (.ref s0), .val (.ref s1), .val (.ref s1), .val (.int mq), .val (.int ((2 : Int32) + (1 : Int32))), .val (.double (0 : UInt64)), .second] [])) _
    rw [show ((2 : Int32) + (1 : Int32)) = (3 : Int32) by decide]
    show Steps p.tables e below (T32.setTop (mkF m 91 #[.val (.ref t0), .val (.ref s0), .val (.ref s1), .val (.ref s1), .val (.int mq), .val (.int (3 : Int32)), .val (.double (0 : UInt64)), .second] [])) _
    refine XS.goto X32.here hx rfl (pc0 := 91) (pc' := 69) rfl (hb hby d1_91) (by decide) (by decide) ?_
    refine XS.iload X32.here hx rfl (hb hby d1_69) rfl ?_
    refine XS.iload X32.here hx rfl (hb hby d1_71) rfl ?_
    show Steps p.tables e below (T32.setTop (mkF m 73 #[.val (.ref t0), .val (.ref s0), .val (.ref s1), .val (.ref s1), .val (.int mq), .val (.int (3 : Int32)), .val (.double (0 : UInt64)), .second] [(.int mq), (.int (3 : Int32))])) _
    refine XS.icmpYes X32.here hx rfl (pc0 := 73) (pc' := 94) rfl (hb hby d1_73) rfl (flt hc73_3).2.1 (by decide) (by decide) ?_
    exact X32.returnOut hx Bd.returns (hb hby d1_94) hr
  · show Q_ini03 Z t0 s0 s1 nq ka mq kb h0 n0 _ T32.heap _
    rw [e32]
    exact ⟨rfl, N32, K18, f19, f20, f24⟩
def Q_ini10 (Z : State) (t0 : Addr) (s0 : Addr) (s1 : Addr) (nq : Int32) (ka : ClassId) (mq : Int32) (kb : ClassId) (h0 : Heap) (n0 : Nat) (v : Option Value) (h : Heap) (L : List Loc) : Prop := v = none ∧ Fr n0 L ∧ Keep h0 h [t0] ∧ Exa Z h t0 "com/example/hedge/hedge/RewardStructure" ∧ Fld Z h t0 "com/example/hedge/hedge/RewardStructure" "state" "[D" (.ref s0) ∧ Fld Z h t0 "com/example/hedge/hedge/RewardStructure" "transition" "[D" (.ref s1)
set_option maxRecDepth 65536 in
set_option maxHeartbeats 40000000 in
theorem ini10 (l : Launch) (Z : State) (a0 : Array Value) (hw : ∀ d ∈ tables_1, d.before a0 Z = true) (ws : List Jvm.Cond) (t0 : Addr) (s0 : Addr) (s1 : Addr) (nq : Int32) (ka : ClassId) (mq : Int32) (kb : ClassId) (h0 : Heap) (n0 : Nat) (Z0 : n0 ≤ h0.size) (E_t0 : Exa Z h0 t0 "com/example/hedge/hedge/RewardStructure") (g_t0 : n0 ≤ t0) (F_state_t0 : Fld Z h0 t0 "com/example/hedge/hedge/RewardStructure" "state" "[D" .null) (F_transition_t0 : Fld Z h0 t0 "com/example/hedge/hedge/RewardStructure" "transition" "[D" .null) (E_s0 : Exa Z h0 s0 "[D") (V_s0 : Arv Z h0 s0 ka .double nq [] (.double (0 : UInt64))) (V_s1 : Arv Z h0 s1 kb .double mq [] (.double (0 : UInt64))) (ne_t0_s0 : t0 ≠ s0) (ne_t0_s1 : t0 ≠ s1) (hc35 : (0 : Int32) < nq) (hin41 : ¬ (0 : Int32) < 0 ∧ (0 : Int32) < nq) (hc35_1 : ¬ ((1 : Int32) < nq)) (hc73 : ¬ ((0 : Int32) < mq)) :
    MetFree l (⟨"com/example/hedge/hedge/RewardStructure", "<init>", "([D[D)V"⟩ : MethodName) (head1 (Jvm.Cond.code (⟨"com/example/hedge/hedge/RewardStructure", "<init>", "([D[D)V"⟩ : MethodName) prog_30_method_1_code 8 none :: ws) ({ frames := 1, cells := 2, slots := 24, locals := 14 } : Room)) (fun a U => a = #[(.ref t0), (.ref s0), (.ref s1)] ∧ Z.Warmed39 U.vm ∧ U.heap = h0) (fun _ _ _ _ _ => True) (fun _ U o U' => ∃ v L, o = .returned v ∧ Q_ini10 Z t0 s0 s1 nq ka mq kb h0 n0 v U'.heap L ∧ ReturnedEndW U o U' L ({ frames := 1, cells := 2, slots := 24, locals := 14 } : Room).cells ({ frames := 1, cells := 2, slots := 24, locals := 14 } : Room).slots) := by
  refine MetFree.of_bodySF (plainFor_of_name pn_com_example_hedge_hedge_RewardStructure) hisR ?_
  intro p e s m args below meth c s₁ Bd hml0 hP hK
  obtain ⟨rfl, hZ, hh⟩ := hP
  have hx := Bd.exec
  have hby := Bd.bytes
  have hml : c.maxLocals = 8 := hml0
  have hown : s.vm.findClass "com/example/hedge/hedge/RewardStructure" = some m.cls := findClass_of_methodNamed Bd.named
  have hnm := (name_of_methodNamed Bd.named Bd.method).1
  have X0 : Stand p l e ({ frames := 1, cells := 2, slots := 24, locals := 14 } : Room) s m #[(.ref t0), (.ref s0), (.ref s1)] below meth c s₁ [] 0 0 := Stand.of_body Bd
  have e0 : s₁.heap = h0 := by rw [← hh, Bd.state]; rfl
  have N0 := Fr.nil n0
  have pre0 : ∀ t, Steps p.tables e below (s₁.setTop (mkF m 0 #[.val (.ref t0), .val (.ref s0), .val (.ref s1), .unset, .unset, .unset, .unset, .unset] [])) t → Steps p.tables e below (s₁.setTop (entryFrame m #[(.ref t0), (.ref s0), (.ref s1)] 8)) t := fun t k => castTop (ef_1_RRR m t0 s0 s1) k
  obtain ⟨vm0, k00, X0, hS0, hk0, hZ0, hown0⟩ := own_W0 X0 e0 hZ hown
  obtain ⟨T1, X1, e1, st1⟩ := initO X0 hx hZ0 hown0 (hw _ (List.mem_of_getElem? (i := 7) rfl)) (hw _ (List.mem_of_getElem? (i := 8) rfl)) (hw _ (List.mem_of_getElem? (i := 9) rfl)) e0 (g := (mkF m 1 #[.val (.ref t0), .val (.ref s0), .val (.ref s1), .unset, .unset, .unset, .unset, .unset] [(.ref t0)])) rfl (by rw [hml]; rfl) rfl (hb hby d1_1) (by decide) (W := 0) (by show 2 * 0 + _ ≤ _; exact Nat.le_of_eq rfl) (by decide)
  obtain ⟨a2, T2, h2, kq2, X2, e2, E2, hS2, hkq2, hZ2, hown2, st2⟩ := ldcS X1 hx hZ0 hown0 (hw _ (List.mem_of_getElem? (i := 10) rfl)) (own_satoms hw) e1 hS0 hk0 (g := (mkF m 6 #[.val (.ref t0), .val (.ref s0), .val (.ref s1), .unset, .unset, .unset, .unset, .unset] [(.ref s0), (.ref t0)])) rfl (hb hby d1_6) (n := 20) (by decide) (by decide) (by decide) (by decide)
  have f3 := E_t0.ext E2
  have f4 := F_state_t0.ext E2
  have f5 := F_transition_t0.ext E2
  have f6 := E_s0.ext E2
  have f7 := V_s0.ext E2
  have f8 := V_s1.ext E2
  have K2 : Keep h0 h2 [t0] := (Keep.refl h0 [t0]).ext E2
  have Zs2 := Nat.le_trans Z0 E2.1
  have hk2 := Nat.le_trans hk0 E2.1
  obtain ⟨_, _, ⟨T9, L9, k9, n9⟩, -, X9, ⟨Lc9, hQ9, lq9, yq9, zq9⟩, st9⟩ := Jvm.LawKit.callS X2 hx (y := (⟨"java/util/Objects", "requireNonNull", "(Ljava/lang/Object;Ljava/lang/String;)Ljava/lang/Object;"⟩ : MethodName)) hown2 (mvT hZ2 (hw _ (List.mem_of_getElem? (i := 18) rfl))) (mvT hZ2 (hw _ (List.mem_of_getElem? (i := 19) rfl))) (mvT hZ2 (hw _ (List.mem_of_getElem? (i := 20) rfl))) (mvT hZ2 (hw _ (List.mem_of_getElem? (i := 21) rfl))) (by decide) (backOf (W := 1) (rn l Z a0 hw [] s0 a2 h2 n0 Zs2 ) hZ2 (hw _ (List.mem_of_getElem? (i := 21) rfl)) (hw _ (List.mem_of_getElem? (i := 20) rfl)) (by decide) (by decide)) (g := (mkF m 8 #[.val (.ref t0), .val (.ref s0), .val (.ref s1), .unset, .unset, .unset, .unset, .unset] [(.ref a2), (.ref s0), (.ref t0)])) rfl (by rw [hml]; rfl) (argsL := [(.ref s0), (.ref a2)]) (rest := [(.ref t0)]) (lenOf pd_0 rfl) rfl (by show 2 * 0 + _ ≤ _; exact Nat.le_of_eq rfl) (hb hby d1_8) (fun _ _ => ⟨rfl, e2, (by decide : 2 + 0 ≤ _), (by decide : 24 + 0 ≤ _)⟩)
  dsimp only [Pt.U, Pt.locs, Pt.cells, Pt.slots] at X9 lq9 yq9 zq9 st9 hQ9
  rw [lq9, yq9, zq9] at X9
  obtain ⟨rfl, N9q, eh9⟩ := hQ9
  have N9 := Fr.app N0 N9q
  have e9 : T9.heap = h2 := eh9
  obtain ⟨T10, X10, e10, st10⟩ := castY X9 hx hZ2 hown2 (hw _ (List.mem_of_getElem? (i := 22) rfl)) e9 (Ins.self f6) (g := (mkF m 11 #[.val (.ref t0), .val (.ref s0), .val (.ref s1), .unset, .unset, .unset, .unset, .unset] [(.ref s0), (.ref t0)])) rfl rfl (hb hby d1_11)
  obtain ⟨T11, h11, X11, e11, W11, st11⟩ := putF X10 hx hZ2 hown2 (host := "") (Or.inl (hw _ (List.mem_of_getElem? (i := 24) rfl))) Via.refl e10 f4 f3 (Or.inr ⟨(hw _ (List.mem_of_getElem? (i := 25) rfl)), rfl, hnm⟩) (hw _ (List.mem_of_getElem? (i := 2) rfl)) (ty := (.array .double)) (by decide) rfl rfl (g := (mkF m 14 #[.val (.ref t0), .val (.ref s0), .val (.ref s1), .unset, .unset, .unset, .unset, .unset] [(.ref s0), (.ref t0)])) rfl rfl (hb hby d1_14)
  have f12 := f3.wr W11
  have f13 := f5.other W11 (Or.inr (so_RewardStructure_transition_state hw))
  have f14 := f6.wr W11
  have f15 := f7.other W11 (Ne.symm ne_t0_s0)
  have f16 := f8.other W11 (Ne.symm ne_t0_s1)
  have K11 : Keep h0 h11 [t0] := K2.wr W11 (Or.inl (List.mem_of_getElem? (i := 0) rfl))
  have Zs11 := Nat.le_trans Zs2 (Keep.of_wr W11).1
  have hk11 := Nat.le_trans hkq2 (Keep.of_wr W11).1
  have N11 := Fr.snoc X11 N9 g_t0
  have f17 : Fld Z h11 t0 "com/example/hedge/hedge/RewardStructure" "state" "[D" (.ref s0) := f4.same W11
  obtain ⟨T18, h18, X18, e18, W18, st18⟩ := putF X11 hx hZ2 hown2 (host := "") (Or.inl (hw _ (List.mem_of_getElem? (i := 26) rfl))) Via.refl e11 f13 f12 (Or.inr ⟨(hw _ (List.mem_of_getElem? (i := 27) rfl)), rfl, hnm⟩) (hw _ (List.mem_of_getElem? (i := 2) rfl)) (ty := (.array .double)) (by decide) rfl rfl (g := (mkF m 19 #[.val (.ref t0), .val (.ref s0), .val (.ref s1), .unset, .unset, .unset, .unset, .unset] [(.ref s1), (.ref t0)])) rfl rfl (hb hby d1_19)
  have f19 := f12.wr W18
  have f20 := f17.other W18 (Or.inr (so_RewardStructure_state_transition hw))
  have f21 := f14.wr W18
  have f22 := f15.other W18 (Ne.symm ne_t0_s0)
  have f23 := f16.other W18 (Ne.symm ne_t0_s1)
  have K18 : Keep h0 h18 [t0] := K11.wr W18 (Or.inl (List.mem_of_getElem? (i := 0) rfl))
  have Zs18 := Nat.le_trans Zs11 (Keep.of_wr W18).1
  have hk18 := Nat.le_trans hk11 (Keep.of_wr W18).1
  have N18 := Fr.snoc X18 N11 g_t0
  have f24 : Fld Z h18 t0 "com/example/hedge/hedge/RewardStructure" "transition" "[D" (.ref s1) := f13.same W18
  obtain ⟨cq25, Arq25, -, Sq25, Nq25, -, -⟩ := id f22
  obtain ⟨cq26, Arq26, -, Sq26, -, Hq26, -⟩ := id f22
  obtain ⟨_, _, ⟨T27, L27, k27, n27⟩, -, X27, ⟨Lc27, hQ27, lq27, yq27, zq27⟩, st27⟩ := Jvm.LawKit.callS X18 hx (y := (⟨"com/example/hedge/hedge/RewardStructure", "checkReward", "(D)D"⟩ : MethodName)) hown2 (mvT hZ2 (hw _ (List.mem_of_getElem? (i := 33) rfl))) (mvT hZ2 (hw _ (List.mem_of_getElem? (i := 34) rfl))) (mvT hZ2 (hw _ (List.mem_of_getElem? (i := 3) rfl))) (mvT hZ2 (hw _ (List.mem_of_getElem? (i := 35) rfl))) (by decide) (backOf (W := 0) (cr l Z a0 hw []  h18 n0 Zs18 ) hZ2 (hw _ (List.mem_of_getElem? (i := 35) rfl)) (hw _ (List.mem_of_getElem? (i := 3) rfl)) (by decide) (by decide)) (g := (mkF m 46 #[.val (.ref t0), .val (.ref s0), .val (.ref s1), .val (.ref s0), .val (.int nq), .val (.int (0 : Int32)), .val (.double (0 : UInt64)), .second] [(.double (0 : UInt64))])) rfl (by rw [hml]; rfl) (argsL := [(.double (0 : UInt64))]) (rest := []) (lenOf pd_1 rfl) rfl (by show 2 * 0 + _ ≤ _; exact Nat.le_of_eq rfl) (hb hby d1_46) (fun _ _ => ⟨rfl, e18, (by decide : 2 + 0 ≤ _), (by decide : 24 + 0 ≤ _)⟩)
  dsimp only [Pt.U, Pt.locs, Pt.cells, Pt.slots] at X27 lq27 yq27 zq27 st27 hQ27
  rw [lq27, yq27, zq27] at X27
  obtain ⟨rfl, N27q, eh27⟩ := hQ27
  have N27 := Fr.app N18 N27q
  have e27 : T27.heap = h18 := eh27
  obtain ⟨cq28, Arq28, -, Sq28, Nq28, -, -⟩ := id f23
  obtain ⟨fs, hr, hrun, hended, hRW⟩ := X27.leaveW hS2 (by rw [e27]; exact hk18) (v := none) (fun _ => rfl)
  refine ⟨_, _, pre0 _ ?_, hrun, hended, _, _, rfl, ?_, ⟨_, rfl⟩, hRW.2.1, hRW.2.2.1, hRW.2.2.2.mono (by decide) (by decide)⟩
  · show Steps p.tables e below (s₁.setTop (mkF m 0 #[.val (.ref t0), .val (.ref s0), .val (.ref s1), .unset, .unset, .unset, .unset, .unset] [])) _
    refine XS.aloadN X0.here hx rfl (hb hby d1_0) rfl rfl ?_
    refine st1 _ ?_
    show Steps p.tables e below (T1.setTop (mkF m 4 #[.val (.ref t0), .val (.ref s0), .val (.ref s1), .unset, .unset, .unset, .unset, .unset] [])) _
    refine XS.aloadN X1.here hx rfl (hb hby d1_4) rfl rfl ?_
    refine XS.aloadN X1.here hx rfl (hb hby d1_5) rfl rfl ?_
    refine st2 _ ?_
    show Steps p.tables e below (T2.setTop (mkF m 8 #[.val (.ref t0), .val (.ref s0), .val (.ref s1), .unset, .unset, .unset, .unset, .unset] [(.ref a2), (.ref s0), (.ref t0)])) _
    refine st9 _ ?_
    show Steps p.tables e below (T9.setTop (mkF m 11 #[.val (.ref t0), .val (.ref s0), .val (.ref s1), .unset, .unset, .unset, .unset, .unset] [(.ref s0), (.ref t0)])) _
    refine st10 _ ?_
    show Steps p.tables e below (T10.setTop (mkF m 14 #[.val (.ref t0), .val (.ref s0), .val (.ref s1), .unset, .unset, .unset, .unset, .unset] [(.ref s0), (.ref t0)])) _
    refine st11 _ ?_
    show Steps p.tables e below (T11.setTop (mkF m 17 #[.val (.ref t0), .val (.ref s0), .val (.ref s1), .unset, .unset, .unset, .unset, .unset] [])) _
    refine XS.aloadN X11.here hx rfl (hb hby d1_17) rfl rfl ?_
    refine XS.aloadN X11.here hx rfl (hb hby d1_18) rfl rfl ?_
    refine st18 _ ?_
    show Steps p.tables e below (T18.setTop (mkF m 22 #[.val (.ref t0), .val (.ref s0), .val (.ref s1), .unset, .unset, .unset, .unset, .unset] [])) _
    refine XS.aloadN X18.here hx rfl (hb hby d1_22) rfl rfl ?_
    refine XS.astoreN X18.here hx rfl (hb hby d1_23) rfl rfl (l' := #[.val (.ref t0), .val (.ref s0), .val (.ref s1), .val (.ref s0), .unset, .unset, .unset, .unset]) rfl ?_
    refine XS.aloadN X18.here hx rfl (hb hby d1_24) rfl rfl ?_
    refine X18.arraylength hx (by rw [e18]; exact Arq25.1) (State.isArrayOf_alike hZ2.alike Arq25.2.1) (g := (mkF m 25 #[.val (.ref t0), .val (.ref s0), .val (.ref s1), .val (.ref s0), .unset, .unset, .unset, .unset] [(.ref s0)])) rfl rfl (hb hby d1_25) _ ?_
    rw [len_of Sq25 Nq25]
    show Steps p.tables e below (T18.setTop (mkF m 26 #[.val (.ref t0), .val (.ref s0), .val (.ref s1), .val (.ref s0), .unset, .unset, .unset, .unset] [(.int nq)])) _
    refine XS.istore X18.here hx rfl (hb hby d1_26) rfl (l' := #[.val (.ref t0), .val (.ref s0), .val (.ref s1), .val (.ref s0), .val (.int nq), .unset, .unset, .unset]) rfl ?_
    refine XS.iconst X18.here hx rfl (hb hby d1_28) ?_
    show Steps p.tables e below (T18.setTop (mkF m 29 #[.val (.ref t0), .val (.ref s0), .val (.ref s1), .val (.ref s0), .val (.int nq), .unset, .unset, .unset] [(.int (0 : Int32))])) _
    refine XS.istore X18.here hx rfl (hb hby d1_29) rfl (l' := #[.val (.ref t0), .val (.ref s0), .val (.ref s1), .val (.ref s0), .val (.int nq), .val (.int (0 : Int32)), .unset, .unset]) rfl ?_
    refine XS.iload X18.here hx rfl (hb hby d1_31) rfl ?_
    refine XS.iload X18.here hx rfl (hb hby d1_33) rfl ?_
    refine XS.icmpNo X18.here hx rfl (hb hby d1_35) rfl (tlt hc35).2.1 ?_
    refine XS.aloadN X18.here hx rfl (hb hby d1_38) rfl rfl ?_
    refine XS.iload X18.here hx rfl (hb hby d1_39) rfl ?_
    show Steps p.tables e below (T18.setTop (mkF m 41 #[.val (.ref t0), .val (.ref s0), .val (.ref s1), .val (.ref s0), .val (.int nq), .val (.int (0 : Int32)), .unset, .unset] [(.int (0 : Int32)), (.ref s0)])) _
    refine X18.daload hx (j := (0 : Int32)) (v := (.double (0 : UInt64))) (by rw [e18]; exact Arq26.1) (State.isArrayOf_alike hZ2.alike Arq26.2.1) Arq26.2.2 (inb_of Sq26 hin41) (Has.at Hq26 (inb_of Sq26 hin41) rfl) (g := (mkF m 41 #[.val (.ref t0), .val (.ref s0), .val (.ref s1), .val (.ref s0), .val (.int nq), .val (.int (0 : Int32)), .unset, .unset] [(.int (0 : Int32)), (.ref s0)])) rfl rfl (hb hby d1_41) _ ?_
    show Steps p.tables e below (T18.setTop (mkF m 42 #[.val (.ref t0), .val (.ref s0), .val (.ref s1), .val (.ref s0), .val (.int nq), .val (.int (0 : Int32)), .unset, .unset] [(.double (0 : UInt64))])) _
    refine XS.dstore X18.here hx rfl (hb hby d1_42) rfl (l' := #[.val (.ref t0), .val (.ref s0), .val (.ref s1), .val (.ref s0), .val (.int nq), .val (.int (0 : Int32)), .val (.double (0 : UInt64)), .second]) rfl ?_
    refine XS.dload X18.here hx rfl (hb hby d1_44) rfl ?_
    refine st27 _ ?_
    show Steps p.tables e below (T27.setTop (mkF m 49 #[.val (.ref t0), .val (.ref s0), .val (.ref s1), .val (.ref s0), .val (.int nq), .val (.int (0 : Int32)), .val (.double (0 : UInt64)), .second] [(.double (0 : UInt64))])) _
    jvm_step X27.here [X27.here.top, hx, (hb hby d1_49), Value.category]
    show Steps p.tables e below (T27.setTop (mkF m 50 #[.val (.ref t0), .val (.ref s0), .val (.ref s1), .val (.ref s0), .val (.int nq), .val (.int (0 : Int32)), .val (.double (0 : UInt64)), .second] [])) _
    refine XS.iinc X27.here hx rfl (hb hby d1_50) rfl (l' := #[.val (.ref t0), .val (.ref s0), .val (.ref s1), .val (.ref s0), .val (.int nq), .val (.int ((0 : Int32) + (1 : Int32))), .val (.double (0 : UInt64)), .second]) rfl ?_
    show Steps p.tables e below (T27.setTop (mkF m 53 #[.val (.ref t0), .val (.ref s0), .val (.ref s1), .val (.ref s0), .val (.int nq), .val (.int ((0 : Int32) + (1 : Int32))), .val (.double (0 : UInt64)), .second] [])) _
    rw [show ((0 : Int32) + (1 : Int32)) = (1 : Int32) by decide]
    show Steps p.tables e below (T27.setTop (mkF m 53 #[.val (.ref t0), .val (.ref s0), .val (.ref s1), .val (.ref s0), .val (.int nq), .val (.int (1 : Int32)), .val (.double (0 : UInt64)), .second] [])) _
    refine XS.goto X27.here hx rfl (pc0 := 53) (pc' := 31) rfl (hb hby d1_53) (by decide) (by decide) ?_
    refine XS.iload X27.here hx rfl (hb hby d1_31) rfl ?_
    refine XS.iload X27.here hx rfl (hb hby d1_33) rfl ?_
    refine XS.icmpYes X27.here hx rfl (pc0 := 35) (pc' := 56) rfl (hb hby d1_35) rfl (flt hc35_1).2.1 (by decide) (by decide) ?_
    refine XS.aloadN X27.here hx rfl (hb hby d1_56) rfl rfl ?_
    show Steps p.tables e below (T27.setTop (mkF m 57 #[.val (.ref t0), .val (.ref s0), .val (.ref s1), .val (.ref s0), .val (.int nq), .val (.int (1 : Int32)), .val (.double (0 : UInt64)), .second] [(.ref s1)])) _
    refine XS.ifnullNo X27.here hx rfl (hb hby d1_57) rfl ?_
    refine XS.aloadN X27.here hx rfl (hb hby d1_60) rfl rfl ?_
    refine XS.astoreN X27.here hx rfl (hb hby d1_61) rfl rfl (l' := #[.val (.ref t0), .val (.ref s0), .val (.ref s1), .val (.ref s1), .val (.int nq), .val (.int (1 : Int32)), .val (.double (0 : UInt64)), .second]) rfl ?_
    refine XS.aloadN X27.here hx rfl (hb hby d1_62) rfl rfl ?_
    refine X27.arraylength hx (by rw [e27]; exact Arq28.1) (State.isArrayOf_alike hZ2.alike Arq28.2.1) (g := (mkF m 63 #[.val (.ref t0), .val (.ref s0), .val (.ref s1), .val (.ref s1), .val (.int nq), .val (.int (1 : Int32)), .val (.double (0 : UInt64)), .second] [(.ref s1)])) rfl rfl (hb hby d1_63) _ ?_
    rw [len_of Sq28 Nq28]
    show Steps p.tables e below (T27.setTop (mkF m 64 #[.val (.ref t0), .val (.ref s0), .val (.ref s1), .val (.ref s1), .val (.int nq), .val (.int (1 : Int32)), .val (.double (0 : UInt64)), .second] [(.int mq)])) _
    refine XS.istore X27.here hx rfl (hb hby d1_64) rfl (l' := #[.val (.ref t0), .val (.ref s0), .val (.ref s1), .val (.ref s1), .val (.int mq), .val (.int (1 : Int32)), .val (.double (0 : UInt64)), .second]) rfl ?_
    show Steps p.tables e below (T27.setTop (mkF m 66 #[.val (.ref t0), .val (.ref s0), .val (.ref s1), .val (.ref s1), .val (.int mq), .val (.int (1 : Int32)), .val (.double (0 : UInt64)), .second] [])) _
    refine XS.iconst X27.here hx rfl (hb hby d1_66) ?_
    refine XS.istore X27.here hx rfl (hb hby d1_67) rfl (l' := #[.val (.ref t0), .val (.ref s0), .val (.ref s1), .val (.ref s1), .val (.int mq), .val (.int (0 : Int32)), .val (.double (0 : UInt64)), .second]) rfl ?_
    refine XS.iload X27.here hx rfl (hb hby d1_69) rfl ?_
    refine XS.iload X27.here hx rfl (hb hby d1_71) rfl ?_
    refine XS.icmpYes X27.here hx rfl (pc0 := 73) (pc' := 94) rfl (hb hby d1_73) rfl (flt hc73).2.1 (by decide) (by decide) ?_
    exact X27.returnOut hx Bd.returns (hb hby d1_94) hr
  · show Q_ini10 Z t0 s0 s1 nq ka mq kb h0 n0 _ T27.heap _
    rw [e27]
    exact ⟨rfl, N27, K18, f19, f20, f24⟩
def Q_ini11 (Z : State) (t0 : Addr) (s0 : Addr) (s1 : Addr) (nq : Int32) (ka : ClassId) (mq : Int32) (kb : ClassId) (h0 : Heap) (n0 : Nat) (v : Option Value) (h : Heap) (L : List Loc) : Prop := v = none ∧ Fr n0 L ∧ Keep h0 h [t0] ∧ Exa Z h t0 "com/example/hedge/hedge/RewardStructure" ∧ Fld Z h t0 "com/example/hedge/hedge/RewardStructure" "state" "[D" (.ref s0) ∧ Fld Z h t0 "com/example/hedge/hedge/RewardStructure" "transition" "[D" (.ref s1)
set_option maxRecDepth 65536 in
set_option maxHeartbeats 40000000 in
theorem ini11 (l : Launch) (Z : State) (a0 : Array Value) (hw : ∀ d ∈ tables_1, d.before a0 Z = true) (ws : List Jvm.Cond) (t0 : Addr) (s0 : Addr) (s1 : Addr) (nq : Int32) (ka : ClassId) (mq : Int32) (kb : ClassId) (h0 : Heap) (n0 : Nat) (Z0 : n0 ≤ h0.size) (E_t0 : Exa Z h0 t0 "com/example/hedge/hedge/RewardStructure") (g_t0 : n0 ≤ t0) (F_state_t0 : Fld Z h0 t0 "com/example/hedge/hedge/RewardStructure" "state" "[D" .null) (F_transition_t0 : Fld Z h0 t0 "com/example/hedge/hedge/RewardStructure" "transition" "[D" .null) (E_s0 : Exa Z h0 s0 "[D") (V_s0 : Arv Z h0 s0 ka .double nq [] (.double (0 : UInt64))) (V_s1 : Arv Z h0 s1 kb .double mq [] (.double (0 : UInt64))) (ne_t0_s0 : t0 ≠ s0) (ne_t0_s1 : t0 ≠ s1) (hc35 : (0 : Int32) < nq) (hin41 : ¬ (0 : Int32) < 0 ∧ (0 : Int32) < nq) (hc35_1 : ¬ ((1 : Int32) < nq)) (hc73 : (0 : Int32) < mq) (hin79 : ¬ (0 : Int32) < 0 ∧ (0 : Int32) < mq) (hc73_1 : ¬ ((1 : Int32) < mq)) :
    MetFree l (⟨"com/example/hedge/hedge/RewardStructure", "<init>", "([D[D)V"⟩ : MethodName) (head1 (Jvm.Cond.code (⟨"com/example/hedge/hedge/RewardStructure", "<init>", "([D[D)V"⟩ : MethodName) prog_30_method_1_code 8 none :: ws) ({ frames := 1, cells := 2, slots := 24, locals := 14 } : Room)) (fun a U => a = #[(.ref t0), (.ref s0), (.ref s1)] ∧ Z.Warmed39 U.vm ∧ U.heap = h0) (fun _ _ _ _ _ => True) (fun _ U o U' => ∃ v L, o = .returned v ∧ Q_ini11 Z t0 s0 s1 nq ka mq kb h0 n0 v U'.heap L ∧ ReturnedEndW U o U' L ({ frames := 1, cells := 2, slots := 24, locals := 14 } : Room).cells ({ frames := 1, cells := 2, slots := 24, locals := 14 } : Room).slots) := by
  refine MetFree.of_bodySF (plainFor_of_name pn_com_example_hedge_hedge_RewardStructure) hisR ?_
  intro p e s m args below meth c s₁ Bd hml0 hP hK
  obtain ⟨rfl, hZ, hh⟩ := hP
  have hx := Bd.exec
  have hby := Bd.bytes
  have hml : c.maxLocals = 8 := hml0
  have hown : s.vm.findClass "com/example/hedge/hedge/RewardStructure" = some m.cls := findClass_of_methodNamed Bd.named
  have hnm := (name_of_methodNamed Bd.named Bd.method).1
  have X0 : Stand p l e ({ frames := 1, cells := 2, slots := 24, locals := 14 } : Room) s m #[(.ref t0), (.ref s0), (.ref s1)] below meth c s₁ [] 0 0 := Stand.of_body Bd
  have e0 : s₁.heap = h0 := by rw [← hh, Bd.state]; rfl
  have N0 := Fr.nil n0
  have pre0 : ∀ t, Steps p.tables e below (s₁.setTop (mkF m 0 #[.val (.ref t0), .val (.ref s0), .val (.ref s1), .unset, .unset, .unset, .unset, .unset] [])) t → Steps p.tables e below (s₁.setTop (entryFrame m #[(.ref t0), (.ref s0), (.ref s1)] 8)) t := fun t k => castTop (ef_1_RRR m t0 s0 s1) k
  obtain ⟨vm0, k00, X0, hS0, hk0, hZ0, hown0⟩ := own_W0 X0 e0 hZ hown
  obtain ⟨T1, X1, e1, st1⟩ := initO X0 hx hZ0 hown0 (hw _ (List.mem_of_getElem? (i := 7) rfl)) (hw _ (List.mem_of_getElem? (i := 8) rfl)) (hw _ (List.mem_of_getElem? (i := 9) rfl)) e0 (g := (mkF m 1 #[.val (.ref t0), .val (.ref s0), .val (.ref s1), .unset, .unset, .unset, .unset, .unset] [(.ref t0)])) rfl (by rw [hml]; rfl) rfl (hb hby d1_1) (by decide) (W := 0) (by show 2 * 0 + _ ≤ _; exact Nat.le_of_eq rfl) (by decide)
  obtain ⟨a2, T2, h2, kq2, X2, e2, E2, hS2, hkq2, hZ2, hown2, st2⟩ := ldcS X1 hx hZ0 hown0 (hw _ (List.mem_of_getElem? (i := 10) rfl)) (own_satoms hw) e1 hS0 hk0 (g := (mkF m 6 #[.val (.ref t0), .val (.ref s0), .val (.ref s1), .unset, .unset, .unset, .unset, .unset] [(.ref s0), (.ref t0)])) rfl (hb hby d1_6) (n := 20) (by decide) (by decide) (by decide) (by decide)
  have f3 := E_t0.ext E2
  have f4 := F_state_t0.ext E2
  have f5 := F_transition_t0.ext E2
  have f6 := E_s0.ext E2
  have f7 := V_s0.ext E2
  have f8 := V_s1.ext E2
  have K2 : Keep h0 h2 [t0] := (Keep.refl h0 [t0]).ext E2
  have Zs2 := Nat.le_trans Z0 E2.1
  have hk2 := Nat.le_trans hk0 E2.1
  obtain ⟨_, _, ⟨T9, L9, k9, n9⟩, -, X9, ⟨Lc9, hQ9, lq9, yq9, zq9⟩, st9⟩ := Jvm.LawKit.callS X2 hx (y := (⟨"java/util/Objects", "requireNonNull", "(Ljava/lang/Object;Ljava/lang/String;)Ljava/lang/Object;"⟩ : MethodName)) hown2 (mvT hZ2 (hw _ (List.mem_of_getElem? (i := 18) rfl))) (mvT hZ2 (hw _ (List.mem_of_getElem? (i := 19) rfl))) (mvT hZ2 (hw _ (List.mem_of_getElem? (i := 20) rfl))) (mvT hZ2 (hw _ (List.mem_of_getElem? (i := 21) rfl))) (by decide) (backOf (W := 1) (rn l Z a0 hw [] s0 a2 h2 n0 Zs2 ) hZ2 (hw _ (List.mem_of_getElem? (i := 21) rfl)) (hw _ (List.mem_of_getElem? (i := 20) rfl)) (by decide) (by decide)) (g := (mkF m 8 #[.val (.ref t0), .val (.ref s0), .val (.ref s1), .unset, .unset, .unset, .unset, .unset] [(.ref a2), (.ref s0), (.ref t0)])) rfl (by rw [hml]; rfl) (argsL := [(.ref s0), (.ref a2)]) (rest := [(.ref t0)]) (lenOf pd_0 rfl) rfl (by show 2 * 0 + _ ≤ _; exact Nat.le_of_eq rfl) (hb hby d1_8) (fun _ _ => ⟨rfl, e2, (by decide : 2 + 0 ≤ _), (by decide : 24 + 0 ≤ _)⟩)
  dsimp only [Pt.U, Pt.locs, Pt.cells, Pt.slots] at X9 lq9 yq9 zq9 st9 hQ9
  rw [lq9, yq9, zq9] at X9
  obtain ⟨rfl, N9q, eh9⟩ := hQ9
  have N9 := Fr.app N0 N9q
  have e9 : T9.heap = h2 := eh9
  obtain ⟨T10, X10, e10, st10⟩ := castY X9 hx hZ2 hown2 (hw _ (List.mem_of_getElem? (i := 22) rfl)) e9 (Ins.self f6) (g := (mkF m 11 #[.val (.ref t0), .val (.ref s0), .val (.ref s1), .unset, .unset, .unset, .unset, .unset] [(.ref s0), (.ref t0)])) rfl rfl (hb hby d1_11)
  obtain ⟨T11, h11, X11, e11, W11, st11⟩ := putF X10 hx hZ2 hown2 (host := "") (Or.inl (hw _ (List.mem_of_getElem? (i := 24) rfl))) Via.refl e10 f4 f3 (Or.inr ⟨(hw _ (List.mem_of_getElem? (i := 25) rfl)), rfl, hnm⟩) (hw _ (List.mem_of_getElem? (i := 2) rfl)) (ty := (.array .double)) (by decide) rfl rfl (g := (mkF m 14 #[.val (.ref t0), .val (.ref s0), .val (.ref s1), .unset, .unset, .unset, .unset, .unset] [(.ref s0), (.ref t0)])) rfl rfl (hb hby d1_14)
  have f12 := f3.wr W11
  have f13 := f5.other W11 (Or.inr (so_RewardStructure_transition_state hw))
  have f14 := f6.wr W11
  have f15 := f7.other W11 (Ne.symm ne_t0_s0)
  have f16 := f8.other W11 (Ne.symm ne_t0_s1)
  have K11 : Keep h0 h11 [t0] := K2.wr W11 (Or.inl (List.mem_of_getElem? (i := 0) rfl))
  have Zs11 := Nat.le_trans Zs2 (Keep.of_wr W11).1
  have hk11 := Nat.le_trans hkq2 (Keep.of_wr W11).1
  have N11 := Fr.snoc X11 N9 g_t0
  have f17 : Fld Z h11 t0 "com/example/hedge/hedge/RewardStructure" "state" "[D" (.ref s0) := f4.same W11
  obtain ⟨T18, h18, X18, e18, W18, st18⟩ := putF X11 hx hZ2 hown2 (host := "") (Or.inl (hw _ (List.mem_of_getElem? (i := 26) rfl))) Via.refl e11 f13 f12 (Or.inr ⟨(hw _ (List.mem_of_getElem? (i := 27) rfl)), rfl, hnm⟩) (hw _ (List.mem_of_getElem? (i := 2) rfl)) (ty := (.array .double)) (by decide) rfl rfl (g := (mkF m 19 #[.val (.ref t0), .val (.ref s0), .val (.ref s1), .unset, .unset, .unset, .unset, .unset] [(.ref s1), (.ref t0)])) rfl rfl (hb hby d1_19)
  have f19 := f12.wr W18
  have f20 := f17.other W18 (Or.inr (so_RewardStructure_state_transition hw))
  have f21 := f14.wr W18
  have f22 := f15.other W18 (Ne.symm ne_t0_s0)
  have f23 := f16.other W18 (Ne.symm ne_t0_s1)
  have K18 : Keep h0 h18 [t0] := K11.wr W18 (Or.inl (List.mem_of_getElem? (i := 0) rfl))
  have Zs18 := Nat.le_trans Zs11 (Keep.of_wr W18).1
  have hk18 := Nat.le_trans hk11 (Keep.of_wr W18).1
  have N18 := Fr.snoc X18 N11 g_t0
  have f24 : Fld Z h18 t0 "com/example/hedge/hedge/RewardStructure" "transition" "[D" (.ref s1) := f13.same W18
  obtain ⟨cq25, Arq25, -, Sq25, Nq25, -, -⟩ := id f22
  obtain ⟨cq26, Arq26, -, Sq26, -, Hq26, -⟩ := id f22
  obtain ⟨_, _, ⟨T27, L27, k27, n27⟩, -, X27, ⟨Lc27, hQ27, lq27, yq27, zq27⟩, st27⟩ := Jvm.LawKit.callS X18 hx (y := (⟨"com/example/hedge/hedge/RewardStructure", "checkReward", "(D)D"⟩ : MethodName)) hown2 (mvT hZ2 (hw _ (List.mem_of_getElem? (i := 33) rfl))) (mvT hZ2 (hw _ (List.mem_of_getElem? (i := 34) rfl))) (mvT hZ2 (hw _ (List.mem_of_getElem? (i := 3) rfl))) (mvT hZ2 (hw _ (List.mem_of_getElem? (i := 35) rfl))) (by decide) (backOf (W := 0) (cr l Z a0 hw []  h18 n0 Zs18 ) hZ2 (hw _ (List.mem_of_getElem? (i := 35) rfl)) (hw _ (List.mem_of_getElem? (i := 3) rfl)) (by decide) (by decide)) (g := (mkF m 46 #[.val (.ref t0), .val (.ref s0), .val (.ref s1), .val (.ref s0), .val (.int nq), .val (.int (0 : Int32)), .val (.double (0 : UInt64)), .second] [(.double (0 : UInt64))])) rfl (by rw [hml]; rfl) (argsL := [(.double (0 : UInt64))]) (rest := []) (lenOf pd_1 rfl) rfl (by show 2 * 0 + _ ≤ _; exact Nat.le_of_eq rfl) (hb hby d1_46) (fun _ _ => ⟨rfl, e18, (by decide : 2 + 0 ≤ _), (by decide : 24 + 0 ≤ _)⟩)
  dsimp only [Pt.U, Pt.locs, Pt.cells, Pt.slots] at X27 lq27 yq27 zq27 st27 hQ27
  rw [lq27, yq27, zq27] at X27
  obtain ⟨rfl, N27q, eh27⟩ := hQ27
  have N27 := Fr.app N18 N27q
  have e27 : T27.heap = h18 := eh27
  obtain ⟨cq28, Arq28, -, Sq28, Nq28, -, -⟩ := id f23
  obtain ⟨cq29, Arq29, -, Sq29, -, Hq29, -⟩ := id f23
  obtain ⟨_, _, ⟨T30, L30, k30, n30⟩, -, X30, ⟨Lc30, hQ30, lq30, yq30, zq30⟩, st30⟩ := Jvm.LawKit.callS X27 hx (y := (⟨"com/example/hedge/hedge/RewardStructure", "checkReward", "(D)D"⟩ : MethodName)) hown2 (mvT hZ2 (hw _ (List.mem_of_getElem? (i := 33) rfl))) (mvT hZ2 (hw _ (List.mem_of_getElem? (i := 34) rfl))) (mvT hZ2 (hw _ (List.mem_of_getElem? (i := 3) rfl))) (mvT hZ2 (hw _ (List.mem_of_getElem? (i := 35) rfl))) (by decide) (backOf (W := 0) (cr l Z a0 hw []  h18 n0 Zs18 ) hZ2 (hw _ (List.mem_of_getElem? (i := 35) rfl)) (hw _ (List.mem_of_getElem? (i := 3) rfl)) (by decide) (by decide)) (g := (mkF m 84 #[.val (.ref t0), .val (.ref s0), .val (.ref s1), .val (.ref s1), .val (.int mq), .val (.int (0 : Int32)), .val (.double (0 : UInt64)), .second] [(.double (0 : UInt64))])) rfl (by rw [hml]; rfl) (argsL := [(.double (0 : UInt64))]) (rest := []) (lenOf pd_1 rfl) rfl (by show 2 * 0 + _ ≤ _; exact Nat.le_of_eq rfl) (hb hby d1_84) (fun _ _ => ⟨rfl, e27, (by decide : 2 + 0 ≤ _), (by decide : 24 + 0 ≤ _)⟩)
  dsimp only [Pt.U, Pt.locs, Pt.cells, Pt.slots] at X30 lq30 yq30 zq30 st30 hQ30
  rw [lq30, yq30, zq30] at X30
  obtain ⟨rfl, N30q, eh30⟩ := hQ30
  have N30 := Fr.app N27 N30q
  have e30 : T30.heap = h18 := eh30
  obtain ⟨fs, hr, hrun, hended, hRW⟩ := X30.leaveW hS2 (by rw [e30]; exact hk18) (v := none) (fun _ => rfl)
  refine ⟨_, _, pre0 _ ?_, hrun, hended, _, _, rfl, ?_, ⟨_, rfl⟩, hRW.2.1, hRW.2.2.1, hRW.2.2.2.mono (by decide) (by decide)⟩
  · show Steps p.tables e below (s₁.setTop (mkF m 0 #[.val (.ref t0), .val (.ref s0), .val (.ref s1), .unset, .unset, .unset, .unset, .unset] [])) _
    refine XS.aloadN X0.here hx rfl (hb hby d1_0) rfl rfl ?_
    refine st1 _ ?_
    show Steps p.tables e below (T1.setTop (mkF m 4 #[.val (.ref t0), .val (.ref s0), .val (.ref s1), .unset, .unset, .unset, .unset, .unset] [])) _
    refine XS.aloadN X1.here hx rfl (hb hby d1_4) rfl rfl ?_
    refine XS.aloadN X1.here hx rfl (hb hby d1_5) rfl rfl ?_
    refine st2 _ ?_
    show Steps p.tables e below (T2.setTop (mkF m 8 #[.val (.ref t0), .val (.ref s0), .val (.ref s1), .unset, .unset, .unset, .unset, .unset] [(.ref a2), (.ref s0), (.ref t0)])) _
    refine st9 _ ?_
    show Steps p.tables e below (T9.setTop (mkF m 11 #[.val (.ref t0), .val (.ref s0), .val (.ref s1), .unset, .unset, .unset, .unset, .unset] [(.ref s0), (.ref t0)])) _
    refine st10 _ ?_
    show Steps p.tables e below (T10.setTop (mkF m 14 #[.val (.ref t0), .val (.ref s0), .val (.ref s1), .unset, .unset, .unset, .unset, .unset] [(.ref s0), (.ref t0)])) _
    refine st11 _ ?_
    show Steps p.tables e below (T11.setTop (mkF m 17 #[.val (.ref t0), .val (.ref s0), .val (.ref s1), .unset, .unset, .unset, .unset, .unset] [])) _
    refine XS.aloadN X11.here hx rfl (hb hby d1_17) rfl rfl ?_
    refine XS.aloadN X11.here hx rfl (hb hby d1_18) rfl rfl ?_
    refine st18 _ ?_
    show Steps p.tables e below (T18.setTop (mkF m 22 #[.val (.ref t0), .val (.ref s0), .val (.ref s1), .unset, .unset, .unset, .unset, .unset] [])) _
    refine XS.aloadN X18.here hx rfl (hb hby d1_22) rfl rfl ?_
    refine XS.astoreN X18.here hx rfl (hb hby d1_23) rfl rfl (l' := #[.val (.ref t0), .val (.ref s0), .val (.ref s1), .val (.ref s0), .unset, .unset, .unset, .unset]) rfl ?_
    refine XS.aloadN X18.here hx rfl (hb hby d1_24) rfl rfl ?_
    refine X18.arraylength hx (by rw [e18]; exact Arq25.1) (State.isArrayOf_alike hZ2.alike Arq25.2.1) (g := (mkF m 25 #[.val (.ref t0), .val (.ref s0), .val (.ref s1), .val (.ref s0), .unset, .unset, .unset, .unset] [(.ref s0)])) rfl rfl (hb hby d1_25) _ ?_
    rw [len_of Sq25 Nq25]
    show Steps p.tables e below (T18.setTop (mkF m 26 #[.val (.ref t0), .val (.ref s0), .val (.ref s1), .val (.ref s0), .unset, .unset, .unset, .unset] [(.int nq)])) _
    refine XS.istore X18.here hx rfl (hb hby d1_26) rfl (l' := #[.val (.ref t0), .val (.ref s0), .val (.ref s1), .val (.ref s0), .val (.int nq), .unset, .unset, .unset]) rfl ?_
    refine XS.iconst X18.here hx rfl (hb hby d1_28) ?_
    show Steps p.tables e below (T18.setTop (mkF m 29 #[.val (.ref t0), .val (.ref s0), .val (.ref s1), .val (.ref s0), .val (.int nq), .unset, .unset, .unset] [(.int (0 : Int32))])) _
    refine XS.istore X18.here hx rfl (hb hby d1_29) rfl (l' := #[.val (.ref t0), .val (.ref s0), .val (.ref s1), .val (.ref s0), .val (.int nq), .val (.int (0 : Int32)), .unset, .unset]) rfl ?_
    refine XS.iload X18.here hx rfl (hb hby d1_31) rfl ?_
    refine XS.iload X18.here hx rfl (hb hby d1_33) rfl ?_
    refine XS.icmpNo X18.here hx rfl (hb hby d1_35) rfl (tlt hc35).2.1 ?_
    refine XS.aloadN X18.here hx rfl (hb hby d1_38) rfl rfl ?_
    refine XS.iload X18.here hx rfl (hb hby d1_39) rfl ?_
    show Steps p.tables e below (T18.setTop (mkF m 41 #[.val (.ref t0), .val (.ref s0), .val (.ref s1), .val (.ref s0), .val (.int nq), .val (.int (0 : Int32)), .unset, .unset] [(.int (0 : Int32)), (.ref s0)])) _
    refine X18.daload hx (j := (0 : Int32)) (v := (.double (0 : UInt64))) (by rw [e18]; exact Arq26.1) (State.isArrayOf_alike hZ2.alike Arq26.2.1) Arq26.2.2 (inb_of Sq26 hin41) (Has.at Hq26 (inb_of Sq26 hin41) rfl) (g := (mkF m 41 #[.val (.ref t0), .val (.ref s0), .val (.ref s1), .val (.ref s0), .val (.int nq), .val (.int (0 : Int32)), .unset, .unset] [(.int (0 : Int32)), (.ref s0)])) rfl rfl (hb hby d1_41) _ ?_
    show Steps p.tables e below (T18.setTop (mkF m 42 #[.val (.ref t0), .val (.ref s0), .val (.ref s1), .val (.ref s0), .val (.int nq), .val (.int (0 : Int32)), .unset, .unset] [(.double (0 : UInt64))])) _
    refine XS.dstore X18.here hx rfl (hb hby d1_42) rfl (l' := #[.val (.ref t0), .val (.ref s0), .val (.ref s1), .val (.ref s0), .val (.int nq), .val (.int (0 : Int32)), .val (.double (0 : UInt64)), .second]) rfl ?_
    refine XS.dload X18.here hx rfl (hb hby d1_44) rfl ?_
    refine st27 _ ?_
    show Steps p.tables e below (T27.setTop (mkF m 49 #[.val (.ref t0), .val (.ref s0), .val (.ref s1), .val (.ref s0), .val (.int nq), .val (.int (0 : Int32)), .val (.double (0 : UInt64)), .second] [(.double (0 : UInt64))])) _
    jvm_step X27.here [X27.here.top, hx, (hb hby d1_49), Value.category]
    show Steps p.tables e below (T27.setTop (mkF m 50 #[.val (.ref t0), .val (.ref s0), .val (.ref s1), .val (.ref s0), .val (.int nq), .val (.int (0 : Int32)), .val (.double (0 : UInt64)), .second] [])) _
    refine XS.iinc X27.here hx rfl (hb hby d1_50) rfl (l' := #[.val (.ref t0), .val (.ref s0), .val (.ref s1), .val (.ref s0), .val (.int nq), .val (.int ((0 : Int32) + (1 : Int32))), .val (.double (0 : UInt64)), .second]) rfl ?_
    show Steps p.tables e below (T27.setTop (mkF m 53 #[.val (.ref t0), .val (.ref s0), .val (.ref s1), .val (.ref s0), .val (.int nq), .val (.int ((0 : Int32) + (1 : Int32))), .val (.double (0 : UInt64)), .second] [])) _
    rw [show ((0 : Int32) + (1 : Int32)) = (1 : Int32) by decide]
    show Steps p.tables e below (T27.setTop (mkF m 53 #[.val (.ref t0), .val (.ref s0), .val (.ref s1), .val (.ref s0), .val (.int nq), .val (.int (1 : Int32)), .val (.double (0 : UInt64)), .second] [])) _
    refine XS.goto X27.here hx rfl (pc0 := 53) (pc' := 31) rfl (hb hby d1_53) (by decide) (by decide) ?_
    refine XS.iload X27.here hx rfl (hb hby d1_31) rfl ?_
    refine XS.iload X27.here hx rfl (hb hby d1_33) rfl ?_
    refine XS.icmpYes X27.here hx rfl (pc0 := 35) (pc' := 56) rfl (hb hby d1_35) rfl (flt hc35_1).2.1 (by decide) (by decide) ?_
    refine XS.aloadN X27.here hx rfl (hb hby d1_56) rfl rfl ?_
    show Steps p.tables e below (T27.setTop (mkF m 57 #[.val (.ref t0), .val (.ref s0), .val (.ref s1), .val (.ref s0), .val (.int nq), .val (.int (1 : Int32)), .val (.double (0 : UInt64)), .second] [(.ref s1)])) _
    refine XS.ifnullNo X27.here hx rfl (hb hby d1_57) rfl ?_
    refine XS.aloadN X27.here hx rfl (hb hby d1_60) rfl rfl ?_
    refine XS.astoreN X27.here hx rfl (hb hby d1_61) rfl rfl (l' := #[.val (.ref t0), .val (.ref s0), .val (.ref s1), .val (.ref s1), .val (.int nq), .val (.int (1 : Int32)), .val (.double (0 : UInt64)), .second]) rfl ?_
    refine XS.aloadN X27.here hx rfl (hb hby d1_62) rfl rfl ?_
    refine X27.arraylength hx (by rw [e27]; exact Arq28.1) (State.isArrayOf_alike hZ2.alike Arq28.2.1) (g := (mkF m 63 #[.val (.ref t0), .val (.ref s0), .val (.ref s1), .val (.ref s1), .val (.int nq), .val (.int (1 : Int32)), .val (.double (0 : UInt64)), .second] [(.ref s1)])) rfl rfl (hb hby d1_63) _ ?_
    rw [len_of Sq28 Nq28]
    show Steps p.tables e below (T27.setTop (mkF m 64 #[.val (.ref t0), .val (.ref s0), .val (.ref s1), .val (.ref s1), .val (.int nq), .val (.int (1 : Int32)), .val (.double (0 : UInt64)), .second] [(.int mq)])) _
    refine XS.istore X27.here hx rfl (hb hby d1_64) rfl (l' := #[.val (.ref t0), .val (.ref s0), .val (.ref s1), .val (.ref s1), .val (.int mq), .val (.int (1 : Int32)), .val (.double (0 : UInt64)), .second]) rfl ?_
    show Steps p.tables e below (T27.setTop (mkF m 66 #[.val (.ref t0), .val (.ref s0), .val (.ref s1), .val (.ref s1), .val (.int mq), .val (.int (1 : Int32)), .val (.double (0 : UInt64)), .second] [])) _
    refine XS.iconst X27.here hx rfl (hb hby d1_66) ?_
    refine XS.istore X27.here hx rfl (hb hby d1_67) rfl (l' := #[.val (.ref t0), .val (.ref s0), .val (.ref s1), .val (.ref s1), .val (.int mq), .val (.int (0 : Int32)), .val (.double (0 : UInt64)), .second]) rfl ?_
    refine XS.iload X27.here hx rfl (hb hby d1_69) rfl ?_
    refine XS.iload X27.here hx rfl (hb hby d1_71) rfl ?_
    refine XS.icmpNo X27.here hx rfl (hb hby d1_73) rfl (tlt hc73).2.1 ?_
    refine XS.aloadN X27.here hx rfl (hb hby d1_76) rfl rfl ?_
    show Steps p.tables e below (T27.setTop (mkF m 77 #[.val (.ref t0), .val (.ref s0), .val (.ref s1), .val (.ref s1), .val (.int mq), .val (.int (0 : Int32)), .val (.double (0 : UInt64)), .second] [(.ref s1)])) _
    refine XS.iload X27.here hx rfl (hb hby d1_77) rfl ?_
    refine X27.daload hx (j := (0 : Int32)) (v := (.double (0 : UInt64))) (by rw [e27]; exact Arq29.1) (State.isArrayOf_alike hZ2.alike Arq29.2.1) Arq29.2.2 (inb_of Sq29 hin79) (Has.at Hq29 (inb_of Sq29 hin79) rfl) (g := (mkF m 79 #[.val (.ref t0), .val (.ref s0), .val (.ref s1), .val (.ref s1), .val (.int mq), .val (.int (0 : Int32)), .val (.double (0 : UInt64)), .second] [(.int (0 : Int32)), (.ref s1)])) rfl rfl (hb hby d1_79) _ ?_
    show Steps p.tables e below (T27.setTop (mkF m 80 #[.val (.ref t0), .val (.ref s0), .val (.ref s1), .val (.ref s1), .val (.int mq), .val (.int (0 : Int32)), .val (.double (0 : UInt64)), .second] [(.double (0 : UInt64))])) _
    refine XS.dstore X27.here hx rfl (hb hby d1_80) rfl (l' := #[.val (.ref t0), .val (.ref s0), .val (.ref s1), .val (.ref s1), .val (.int mq), .val (.int (0 : Int32)), .val (.double (0 : UInt64)), .second]) rfl ?_
    refine XS.dload X27.here hx rfl (hb hby d1_82) rfl ?_
    refine st30 _ ?_
    show Steps p.tables e below (T30.setTop (mkF m 87 #[.val (.ref t0), .val (.ref s0), .val (.ref s1), .val (.ref s1), .val (.int mq), .val (.int (0 : Int32)), .val (.double (0 : UInt64)), .second] [(.double (0 : UInt64))])) _
    jvm_step X30.here [X30.here.top, hx, (hb hby d1_87), Value.category]
    show Steps p.tables e below (T30.setTop (mkF m 88 #[.val (.ref t0), .val (.ref s0), .val (.ref s1), .val (.ref s1), .val (.int mq), .val (.int (0 : Int32)), .val (.double (0 : UInt64)), .second] [])) _
    refine XS.iinc X30.here hx rfl (hb hby d1_88) rfl (l' := #[.val (.ref t0), .val (.ref s0), .val (.ref s1), .val (.ref s1), .val (.int mq), .val (.int ((0 : Int32) + (1 : Int32))), .val (.double (0 : UInt64)), .second]) rfl ?_
    show Steps p.tables e below (T30.setTop (mkF m 91 #[.val (.ref t0), .val (.ref s0), .val (.ref s1), .val (.ref s1), .val (.int mq), .val (.int ((0 : Int32) + (1 : Int32))), .val (.double (0 : UInt64)), .second] [])) _
    rw [show ((0 : Int32) + (1 : Int32)) = (1 : Int32) by decide]
    show Steps p.tables e below (T30.setTop (mkF m 91 #[.val (.ref t0), .val (.ref s0), .val (.ref s1), .val (.ref s1), .val (.int mq), .val (.int (1 : Int32)), .val (.double (0 : UInt64)), .second] [])) _
    refine XS.goto X30.here hx rfl (pc0 := 91) (pc' := 69) rfl (hb hby d1_91) (by decide) (by decide) ?_
    refine XS.iload X30.here hx rfl (hb hby d1_69) rfl ?_
    refine XS.iload X30.here hx rfl (hb hby d1_71) rfl ?_
    refine XS.icmpYes X30.here hx rfl (pc0 := 73) (pc' := 94) rfl (hb hby d1_73) rfl (flt hc73_1).2.1 (by decide) (by decide) ?_
    show Steps p.tables e below (T30.setTop (mkF m 94 #[.val (.ref t0), .val (.ref s0), .val (.ref s1), .val (.ref s1), .val (.int mq), .val (.int (1 : Int32)), .val (.double (0 : UInt64)), .second] [])) _
    exact X30.returnOut hx Bd.returns (hb hby d1_94) hr
  · show Q_ini11 Z t0 s0 s1 nq ka mq kb h0 n0 _ T30.heap _
    rw [e30]
    exact ⟨rfl, N30, K18, f19, f20, f24⟩
def Q_ini12 (Z : State) (t0 : Addr) (s0 : Addr) (s1 : Addr) (nq : Int32) (ka : ClassId) (mq : Int32) (kb : ClassId) (h0 : Heap) (n0 : Nat) (v : Option Value) (h : Heap) (L : List Loc) : Prop := v = none ∧ Fr n0 L ∧ Keep h0 h [t0] ∧ Exa Z h t0 "com/example/hedge/hedge/RewardStructure" ∧ Fld Z h t0 "com/example/hedge/hedge/RewardStructure" "state" "[D" (.ref s0) ∧ Fld Z h t0 "com/example/hedge/hedge/RewardStructure" "transition" "[D" (.ref s1)
set_option maxRecDepth 65536 in
set_option maxHeartbeats 40000000 in
theorem ini12 (l : Launch) (Z : State) (a0 : Array Value) (hw : ∀ d ∈ tables_1, d.before a0 Z = true) (ws : List Jvm.Cond) (t0 : Addr) (s0 : Addr) (s1 : Addr) (nq : Int32) (ka : ClassId) (mq : Int32) (kb : ClassId) (h0 : Heap) (n0 : Nat) (Z0 : n0 ≤ h0.size) (E_t0 : Exa Z h0 t0 "com/example/hedge/hedge/RewardStructure") (g_t0 : n0 ≤ t0) (F_state_t0 : Fld Z h0 t0 "com/example/hedge/hedge/RewardStructure" "state" "[D" .null) (F_transition_t0 : Fld Z h0 t0 "com/example/hedge/hedge/RewardStructure" "transition" "[D" .null) (E_s0 : Exa Z h0 s0 "[D") (V_s0 : Arv Z h0 s0 ka .double nq [] (.double (0 : UInt64))) (V_s1 : Arv Z h0 s1 kb .double mq [] (.double (0 : UInt64))) (ne_t0_s0 : t0 ≠ s0) (ne_t0_s1 : t0 ≠ s1) (hc35 : (0 : Int32) < nq) (hin41 : ¬ (0 : Int32) < 0 ∧ (0 : Int32) < nq) (hc35_1 : ¬ ((1 : Int32) < nq)) (hc73 : (0 : Int32) < mq) (hin79 : ¬ (0 : Int32) < 0 ∧ (0 : Int32) < mq) (hc73_1 : (1 : Int32) < mq) (hin79_1 : ¬ (1 : Int32) < 0 ∧ (1 : Int32) < mq) (hc73_2 : ¬ ((2 : Int32) < mq)) :
    MetFree l (⟨"com/example/hedge/hedge/RewardStructure", "<init>", "([D[D)V"⟩ : MethodName) (head1 (Jvm.Cond.code (⟨"com/example/hedge/hedge/RewardStructure", "<init>", "([D[D)V"⟩ : MethodName) prog_30_method_1_code 8 none :: ws) ({ frames := 1, cells := 2, slots := 24, locals := 14 } : Room)) (fun a U => a = #[(.ref t0), (.ref s0), (.ref s1)] ∧ Z.Warmed39 U.vm ∧ U.heap = h0) (fun _ _ _ _ _ => True) (fun _ U o U' => ∃ v L, o = .returned v ∧ Q_ini12 Z t0 s0 s1 nq ka mq kb h0 n0 v U'.heap L ∧ ReturnedEndW U o U' L ({ frames := 1, cells := 2, slots := 24, locals := 14 } : Room).cells ({ frames := 1, cells := 2, slots := 24, locals := 14 } : Room).slots) := by
  refine MetFree.of_bodySF (plainFor_of_name pn_com_example_hedge_hedge_RewardStructure) hisR ?_
  intro p e s m args below meth c s₁ Bd hml0 hP hK
  obtain ⟨rfl, hZ, hh⟩ := hP
  have hx := Bd.exec
  have hby := Bd.bytes
  have hml : c.maxLocals = 8 := hml0
  have hown : s.vm.findClass "com/example/hedge/hedge/RewardStructure" = some m.cls := findClass_of_methodNamed Bd.named
  have hnm := (name_of_methodNamed Bd.named Bd.method).1
  have X0 : Stand p l e ({ frames := 1, cells := 2, slots := 24, locals := 14 } : Room) s m #[(.ref t0), (.ref s0), (.ref s1)] below meth c s₁ [] 0 0 := Stand.of_body Bd
  have e0 : s₁.heap = h0 := by rw [← hh, Bd.state]; rfl
  have N0 := Fr.nil n0
  have pre0 : ∀ t, Steps p.tables e below (s₁.setTop (mkF m 0 #[.val (.ref t0), .val (.ref s0), .val (.ref s1), .unset, .unset, .unset, .unset, .unset] [])) t → Steps p.tables e below (s₁.setTop (entryFrame m #[(.ref t0), (.ref s0), (.ref s1)] 8)) t := fun t k => castTop (ef_1_RRR m t0 s0 s1) k
  obtain ⟨vm0, k00, X0, hS0, hk0, hZ0, hown0⟩ := own_W0 X0 e0 hZ hown
  obtain ⟨T1, X1, e1, st1⟩ := initO X0 hx hZ0 hown0 (hw _ (List.mem_of_getElem? (i := 7) rfl)) (hw _ (List.mem_of_getElem? (i := 8) rfl)) (hw _ (List.mem_of_getElem? (i := 9) rfl)) e0 (g := (mkF m 1 #[.val (.ref t0), .val (.ref s0), .val (.ref s1), .unset, .unset, .unset, .unset, .unset] [(.ref t0)])) rfl (by rw [hml]; rfl) rfl (hb hby d1_1) (by decide) (W := 0) (by show 2 * 0 + _ ≤ _; exact Nat.le_of_eq rfl) (by decide)
  obtain ⟨a2, T2, h2, kq2, X2, e2, E2, hS2, hkq2, hZ2, hown2, st2⟩ := ldcS X1 hx hZ0 hown0 (hw _ (List.mem_of_getElem? (i := 10) rfl)) (own_satoms hw) e1 hS0 hk0 (g := (mkF m 6 #[.val (.ref t0), .val (.ref s0), .val (.ref s1), .unset, .unset, .unset, .unset, .unset] [(.ref s0), (.ref t0)])) rfl (hb hby d1_6) (n := 20) (by decide) (by decide) (by decide) (by decide)
  have f3 := E_t0.ext E2
  have f4 := F_state_t0.ext E2
  have f5 := F_transition_t0.ext E2
  have f6 := E_s0.ext E2
  have f7 := V_s0.ext E2
  have f8 := V_s1.ext E2
  have K2 : Keep h0 h2 [t0] := (Keep.refl h0 [t0]).ext E2
  have Zs2 := Nat.le_trans Z0 E2.1
  have hk2 := Nat.le_trans hk0 E2.1
  obtain ⟨_, _, ⟨T9, L9, k9, n9⟩, -, X9, ⟨Lc9, hQ9, lq9, yq9, zq9⟩, st9⟩ := Jvm.LawKit.callS X2 hx (y := (⟨"java/util/Objects", "requireNonNull", "(Ljava/lang/Object;Ljava/lang/String;)Ljava/lang/Object;"⟩ : MethodName)) hown2 (mvT hZ2 (hw _ (List.mem_of_getElem? (i := 18) rfl))) (mvT hZ2 (hw _ (List.mem_of_getElem? (i := 19) rfl))) (mvT hZ2 (hw _ (List.mem_of_getElem? (i := 20) rfl))) (mvT hZ2 (hw _ (List.mem_of_getElem? (i := 21) rfl))) (by decide) (backOf (W := 1) (rn l Z a0 hw [] s0 a2 h2 n0 Zs2 ) hZ2 (hw _ (List.mem_of_getElem? (i := 21) rfl)) (hw _ (List.mem_of_getElem? (i := 20) rfl)) (by decide) (by decide)) (g := (mkF m 8 #[.val (.ref t0), .val (.ref s0), .val (.ref s1), .unset, .unset, .unset, .unset, .unset] [(.ref a2), (.ref s0), (.ref t0)])) rfl (by rw [hml]; rfl) (argsL := [(.ref s0), (.ref a2)]) (rest := [(.ref t0)]) (lenOf pd_0 rfl) rfl (by show 2 * 0 + _ ≤ _; exact Nat.le_of_eq rfl) (hb hby d1_8) (fun _ _ => ⟨rfl, e2, (by decide : 2 + 0 ≤ _), (by decide : 24 + 0 ≤ _)⟩)
  dsimp only [Pt.U, Pt.locs, Pt.cells, Pt.slots] at X9 lq9 yq9 zq9 st9 hQ9
  rw [lq9, yq9, zq9] at X9
  obtain ⟨rfl, N9q, eh9⟩ := hQ9
  have N9 := Fr.app N0 N9q
  have e9 : T9.heap = h2 := eh9
  obtain ⟨T10, X10, e10, st10⟩ := castY X9 hx hZ2 hown2 (hw _ (List.mem_of_getElem? (i := 22) rfl)) e9 (Ins.self f6) (g := (mkF m 11 #[.val (.ref t0), .val (.ref s0), .val (.ref s1), .unset, .unset, .unset, .unset, .unset] [(.ref s0), (.ref t0)])) rfl rfl (hb hby d1_11)
  obtain ⟨T11, h11, X11, e11, W11, st11⟩ := putF X10 hx hZ2 hown2 (host := "") (Or.inl (hw _ (List.mem_of_getElem? (i := 24) rfl))) Via.refl e10 f4 f3 (Or.inr ⟨(hw _ (List.mem_of_getElem? (i := 25) rfl)), rfl, hnm⟩) (hw _ (List.mem_of_getElem? (i := 2) rfl)) (ty := (.array .double)) (by decide) rfl rfl (g := (mkF m 14 #[.val (.ref t0), .val (.ref s0), .val (.ref s1), .unset, .unset, .unset, .unset, .unset] [(.ref s0), (.ref t0)])) rfl rfl (hb hby d1_14)
  have f12 := f3.wr W11
  have f13 := f5.other W11 (Or.inr (so_RewardStructure_transition_state hw))
  have f14 := f6.wr W11
  have f15 := f7.other W11 (Ne.symm ne_t0_s0)
  have f16 := f8.other W11 (Ne.symm ne_t0_s1)
  have K11 : Keep h0 h11 [t0] := K2.wr W11 (Or.inl (List.mem_of_getElem? (i := 0) rfl))
  have Zs11 := Nat.le_trans Zs2 (Keep.of_wr W11).1
  have hk11 := Nat.le_trans hkq2 (Keep.of_wr W11).1
  have N11 := Fr.snoc X11 N9 g_t0
  have f17 : Fld Z h11 t0 "com/example/hedge/hedge/RewardStructure" "state" "[D" (.ref s0) := f4.same W11
  obtain ⟨T18, h18, X18, e18, W18, st18⟩ := putF X11 hx hZ2 hown2 (host := "") (Or.inl (hw _ (List.mem_of_getElem? (i := 26) rfl))) Via.refl e11 f13 f12 (Or.inr ⟨(hw _ (List.mem_of_getElem? (i := 27) rfl)), rfl, hnm⟩) (hw _ (List.mem_of_getElem? (i := 2) rfl)) (ty := (.array .double)) (by decide) rfl rfl (g := (mkF m 19 #[.val (.ref t0), .val (.ref s0), .val (.ref s1), .unset, .unset, .unset, .unset, .unset] [(.ref s1), (.ref t0)])) rfl rfl (hb hby d1_19)
  have f19 := f12.wr W18
  have f20 := f17.other W18 (Or.inr (so_RewardStructure_state_transition hw))
  have f21 := f14.wr W18
  have f22 := f15.other W18 (Ne.symm ne_t0_s0)
  have f23 := f16.other W18 (Ne.symm ne_t0_s1)
  have K18 : Keep h0 h18 [t0] := K11.wr W18 (Or.inl (List.mem_of_getElem? (i := 0) rfl))
  have Zs18 := Nat.le_trans Zs11 (Keep.of_wr W18).1
  have hk18 := Nat.le_trans hk11 (Keep.of_wr W18).1
  have N18 := Fr.snoc X18 N11 g_t0
  have f24 : Fld Z h18 t0 "com/example/hedge/hedge/RewardStructure" "transition" "[D" (.ref s1) := f13.same W18
  obtain ⟨cq25, Arq25, -, Sq25, Nq25, -, -⟩ := id f22
  obtain ⟨cq26, Arq26, -, Sq26, -, Hq26, -⟩ := id f22
  obtain ⟨_, _, ⟨T27, L27, k27, n27⟩, -, X27, ⟨Lc27, hQ27, lq27, yq27, zq27⟩, st27⟩ := Jvm.LawKit.callS X18 hx (y := (⟨"com/example/hedge/hedge/RewardStructure", "checkReward", "(D)D"⟩ : MethodName)) hown2 (mvT hZ2 (hw _ (List.mem_of_getElem? (i := 33) rfl))) (mvT hZ2 (hw _ (List.mem_of_getElem? (i := 34) rfl))) (mvT hZ2 (hw _ (List.mem_of_getElem? (i := 3) rfl))) (mvT hZ2 (hw _ (List.mem_of_getElem? (i := 35) rfl))) (by decide) (backOf (W := 0) (cr l Z a0 hw []  h18 n0 Zs18 ) hZ2 (hw _ (List.mem_of_getElem? (i := 35) rfl)) (hw _ (List.mem_of_getElem? (i := 3) rfl)) (by decide) (by decide)) (g := (mkF m 46 #[.val (.ref t0), .val (.ref s0), .val (.ref s1), .val (.ref s0), .val (.int nq), .val (.int (0 : Int32)), .val (.double (0 : UInt64)), .second] [(.double (0 : UInt64))])) rfl (by rw [hml]; rfl) (argsL := [(.double (0 : UInt64))]) (rest := []) (lenOf pd_1 rfl) rfl (by show 2 * 0 + _ ≤ _; exact Nat.le_of_eq rfl) (hb hby d1_46) (fun _ _ => ⟨rfl, e18, (by decide : 2 + 0 ≤ _), (by decide : 24 + 0 ≤ _)⟩)
  dsimp only [Pt.U, Pt.locs, Pt.cells, Pt.slots] at X27 lq27 yq27 zq27 st27 hQ27
  rw [lq27, yq27, zq27] at X27
  obtain ⟨rfl, N27q, eh27⟩ := hQ27
  have N27 := Fr.app N18 N27q
  have e27 : T27.heap = h18 := eh27
  obtain ⟨cq28, Arq28, -, Sq28, Nq28, -, -⟩ := id f23
  obtain ⟨cq29, Arq29, -, Sq29, -, Hq29, -⟩ := id f23
  obtain ⟨_, _, ⟨T30, L30, k30, n30⟩, -, X30, ⟨Lc30, hQ30, lq30, yq30, zq30⟩, st30⟩ := Jvm.LawKit.callS X27 hx (y := (⟨"com/example/hedge/hedge/RewardStructure", "checkReward", "(D)D"⟩ : MethodName)) hown2 (mvT hZ2 (hw _ (List.mem_of_getElem? (i := 33) rfl))) (mvT hZ2 (hw _ (List.mem_of_getElem? (i := 34) rfl))) (mvT hZ2 (hw _ (List.mem_of_getElem? (i := 3) rfl))) (mvT hZ2 (hw _ (List.mem_of_getElem? (i := 35) rfl))) (by decide) (backOf (W := 0) (cr l Z a0 hw []  h18 n0 Zs18 ) hZ2 (hw _ (List.mem_of_getElem? (i := 35) rfl)) (hw _ (List.mem_of_getElem? (i := 3) rfl)) (by decide) (by decide)) (g := (mkF m 84 #[.val (.ref t0), .val (.ref s0), .val (.ref s1), .val (.ref s1), .val (.int mq), .val (.int (0 : Int32)), .val (.double (0 : UInt64)), .second] [(.double (0 : UInt64))])) rfl (by rw [hml]; rfl) (argsL := [(.double (0 : UInt64))]) (rest := []) (lenOf pd_1 rfl) rfl (by show 2 * 0 + _ ≤ _; exact Nat.le_of_eq rfl) (hb hby d1_84) (fun _ _ => ⟨rfl, e27, (by decide : 2 + 0 ≤ _), (by decide : 24 + 0 ≤ _)⟩)
  dsimp only [Pt.U, Pt.locs, Pt.cells, Pt.slots] at X30 lq30 yq30 zq30 st30 hQ30
  rw [lq30, yq30, zq30] at X30
  obtain ⟨rfl, N30q, eh30⟩ := hQ30
  have N30 := Fr.app N27 N30q
  have e30 : T30.heap = h18 := eh30
  obtain ⟨cq31, Arq31, -, Sq31, -, Hq31, -⟩ := id f23
  obtain ⟨_, _, ⟨T32, L32, k32, n32⟩, -, X32, ⟨Lc32, hQ32, lq32, yq32, zq32⟩, st32⟩ := Jvm.LawKit.callS X30 hx (y := (⟨"com/example/hedge/hedge/RewardStructure", "checkReward", "(D)D"⟩ : MethodName)) hown2 (mvT hZ2 (hw _ (List.mem_of_getElem? (i := 33) rfl))) (mvT hZ2 (hw _ (List.mem_of_getElem? (i := 34) rfl))) (mvT hZ2 (hw _ (List.mem_of_getElem? (i := 3) rfl))) (mvT hZ2 (hw _ (List.mem_of_getElem? (i := 35) rfl))) (by decide) (backOf (W := 0) (cr l Z a0 hw []  h18 n0 Zs18 ) hZ2 (hw _ (List.mem_of_getElem? (i := 35) rfl)) (hw _ (List.mem_of_getElem? (i := 3) rfl)) (by decide) (by decide)) (g := (mkF m 84 #[.val (.ref t0), .val (.ref s0), .val (.ref s1), .val (.ref s1), .val (.int mq), .val (.int (1 : Int32)), .val (.double (0 : UInt64)), .second] [(.double (0 : UInt64))])) rfl (by rw [hml]; rfl) (argsL := [(.double (0 : UInt64))]) (rest := []) (lenOf pd_1 rfl) rfl (by show 2 * 0 + _ ≤ _; exact Nat.le_of_eq rfl) (hb hby d1_84) (fun _ _ => ⟨rfl, e30, (by decide : 2 + 0 ≤ _), (by decide : 24 + 0 ≤ _)⟩)
  dsimp only [Pt.U, Pt.locs, Pt.cells, Pt.slots] at X32 lq32 yq32 zq32 st32 hQ32
  rw [lq32, yq32, zq32] at X32
  obtain ⟨rfl, N32q, eh32⟩ := hQ32
  have N32 := Fr.app N30 N32q
  have e32 : T32.heap = h18 := eh32
  obtain ⟨fs, hr, hrun, hended, hRW⟩ := X32.leaveW hS2 (by rw [e32]; exact hk18) (v := none) (fun _ => rfl)
  refine ⟨_, _, pre0 _ ?_, hrun, hended, _, _, rfl, ?_, ⟨_, rfl⟩, hRW.2.1, hRW.2.2.1, hRW.2.2.2.mono (by decide) (by decide)⟩
  · show Steps p.tables e below (s₁.setTop (mkF m 0 #[.val (.ref t0), .val (.ref s0), .val (.ref s1), .unset, .unset, .unset, .unset, .unset] [])) _
    refine XS.aloadN X0.here hx rfl (hb hby d1_0) rfl rfl ?_
    refine st1 _ ?_
    show Steps p.tables e below (T1.setTop (mkF m 4 #[.val (.ref t0), .val (.ref s0), .val (.ref s1), .unset, .unset, .unset, .unset, .unset] [])) _
    refine XS.aloadN X1.here hx rfl (hb hby d1_4) rfl rfl ?_
    refine XS.aloadN X1.here hx rfl (hb hby d1_5) rfl rfl ?_
    refine st2 _ ?_
    show Steps p.tables e below (T2.setTop (mkF m 8 #[.val (.ref t0), .val (.ref s0), .val (.ref s1), .unset, .unset, .unset, .unset, .unset] [(.ref a2), (.ref s0), (.ref t0)])) _
    refine st9 _ ?_
    show Steps p.tables e below (T9.setTop (mkF m 11 #[.val (.ref t0), .val (.ref s0), .val (.ref s1), .unset, .unset, .unset, .unset, .unset] [(.ref s0), (.ref t0)])) _
    refine st10 _ ?_
    show Steps p.tables e below (T10.setTop (mkF m 14 #[.val (.ref t0), .val (.ref s0), .val (.ref s1), .unset, .unset, .unset, .unset, .unset] [(.ref s0), (.ref t0)])) _
    refine st11 _ ?_
    show Steps p.tables e below (T11.setTop (mkF m 17 #[.val (.ref t0), .val (.ref s0), .val (.ref s1), .unset, .unset, .unset, .unset, .unset] [])) _
    refine XS.aloadN X11.here hx rfl (hb hby d1_17) rfl rfl ?_
    refine XS.aloadN X11.here hx rfl (hb hby d1_18) rfl rfl ?_
    refine st18 _ ?_
    show Steps p.tables e below (T18.setTop (mkF m 22 #[.val (.ref t0), .val (.ref s0), .val (.ref s1), .unset, .unset, .unset, .unset, .unset] [])) _
    refine XS.aloadN X18.here hx rfl (hb hby d1_22) rfl rfl ?_
    refine XS.astoreN X18.here hx rfl (hb hby d1_23) rfl rfl (l' := #[.val (.ref t0), .val (.ref s0), .val (.ref s1), .val (.ref s0), .unset, .unset, .unset, .unset]) rfl ?_
    refine XS.aloadN X18.here hx rfl (hb hby d1_24) rfl rfl ?_
    refine X18.arraylength hx (by rw [e18]; exact Arq25.1) (State.isArrayOf_alike hZ2.alike Arq25.2.1) (g := (mkF m 25 #[.val (.ref t0), .val (.ref s0), .val (.ref s1), .val (.ref s0), .unset, .unset, .unset, .unset] [(.ref s0)])) rfl rfl (hb hby d1_25) _ ?_
    rw [len_of Sq25 Nq25]
    show Steps p.tables e below (T18.setTop (mkF m 26 #[.val (.ref t0), .val (.ref s0), .val (.ref s1), .val (.ref s0), .unset, .unset, .unset, .unset] [(.int nq)])) _
    refine XS.istore X18.here hx rfl (hb hby d1_26) rfl (l' := #[.val (.ref t0), .val (.ref s0), .val (.ref s1), .val (.ref s0), .val (.int nq), .unset, .unset, .unset]) rfl ?_
    refine XS.iconst X18.here hx rfl (hb hby d1_28) ?_
    show Steps p.tables e below (T18.setTop (mkF m 29 #[.val (.ref t0), .val (.ref s0), .val (.ref s1), .val (.ref s0), .val (.int nq), .unset, .unset, .unset] [(.int (0 : Int32))])) _
    refine XS.istore X18.here hx rfl (hb hby d1_29) rfl (l' := #[.val (.ref t0), .val (.ref s0), .val (.ref s1), .val (.ref s0), .val (.int nq), .val (.int (0 : Int32)), .unset, .unset]) rfl ?_
    refine XS.iload X18.here hx rfl (hb hby d1_31) rfl ?_
    refine XS.iload X18.here hx rfl (hb hby d1_33) rfl ?_
    refine XS.icmpNo X18.here hx rfl (hb hby d1_35) rfl (tlt hc35).2.1 ?_
    refine XS.aloadN X18.here hx rfl (hb hby d1_38) rfl rfl ?_
    refine XS.iload X18.here hx rfl (hb hby d1_39) rfl ?_
    show Steps p.tables e below (T18.setTop (mkF m 41 #[.val (.ref t0), .val (.ref s0), .val (.ref s1), .val (.ref s0), .val (.int nq), .val (.int (0 : Int32)), .unset, .unset] [(.int (0 : Int32)), (.ref s0)])) _
    refine X18.daload hx (j := (0 : Int32)) (v := (.double (0 : UInt64))) (by rw [e18]; exact Arq26.1) (State.isArrayOf_alike hZ2.alike Arq26.2.1) Arq26.2.2 (inb_of Sq26 hin41) (Has.at Hq26 (inb_of Sq26 hin41) rfl) (g := (mkF m 41 #[.val (.ref t0), .val (.ref s0), .val (.ref s1), .val (.ref s0), .val (.int nq), .val (.int (0 : Int32)), .unset, .unset] [(.int (0 : Int32)), (.ref s0)])) rfl rfl (hb hby d1_41) _ ?_
    show Steps p.tables e below (T18.setTop (mkF m 42 #[.val (.ref t0), .val (.ref s0), .val (.ref s1), .val (.ref s0), .val (.int nq), .val (.int (0 : Int32)), .unset, .unset] [(.double (0 : UInt64))])) _
    refine XS.dstore X18.here hx rfl (hb hby d1_42) rfl (l' := #[.val (.ref t0), .val (.ref s0), .val (.ref s1), .val (.ref s0), .val (.int nq), .val (.int (0 : Int32)), .val (.double (0 : UInt64)), .second]) rfl ?_
    refine XS.dload X18.here hx rfl (hb hby d1_44) rfl ?_
    refine st27 _ ?_
    show Steps p.tables e below (T27.setTop (mkF m 49 #[.val (.ref t0), .val (.ref s0), .val (.ref s1), .val (.ref s0), .val (.int nq), .val (.int (0 : Int32)), .val (.double (0 : UInt64)), .second] [(.double (0 : UInt64))])) _
    jvm_step X27.here [X27.here.top, hx, (hb hby d1_49), Value.category]
    show Steps p.tables e below (T27.setTop (mkF m 50 #[.val (.ref t0), .val (.ref s0), .val (.ref s1), .val (.ref s0), .val (.int nq), .val (.int (0 : Int32)), .val (.double (0 : UInt64)), .second] [])) _
    refine XS.iinc X27.here hx rfl (hb hby d1_50) rfl (l' := #[.val (.ref t0), .val (.ref s0), .val (.ref s1), .val (.ref s0), .val (.int nq), .val (.int ((0 : Int32) + (1 : Int32))), .val (.double (0 : UInt64)), .second]) rfl ?_
    show Steps p.tables e below (T27.setTop (mkF m 53 #[.val (.ref t0), .val (.ref s0), .val (.ref s1), .val (.ref s0), .val (.int nq), .val (.int ((0 : Int32) + (1 : Int32))), .val (.double (0 : UInt64)), .second] [])) _
    rw [show ((0 : Int32) + (1 : Int32)) = (1 : Int32) by decide]
    show Steps p.tables e below (T27.setTop (mkF m 53 #[.val (.ref t0), .val (.ref s0), .val (.ref s1), .val (.ref s0), .val (.int nq), .val (.int (1 : Int32)), .val (.double (0 : UInt64)), .second] [])) _
    refine XS.goto X27.here hx rfl (pc0 := 53) (pc' := 31) rfl (hb hby d1_53) (by decide) (by decide) ?_
    refine XS.iload X27.here hx rfl (hb hby d1_31) rfl ?_
    refine XS.iload X27.here hx rfl (hb hby d1_33) rfl ?_
    refine XS.icmpYes X27.here hx rfl (pc0 := 35) (pc' := 56) rfl (hb hby d1_35) rfl (flt hc35_1).2.1 (by decide) (by decide) ?_
    refine XS.aloadN X27.here hx rfl (hb hby d1_56) rfl rfl ?_
    show Steps p.tables e below (T27.setTop (mkF m 57 #[.val (.ref t0), .val (.ref s0), .val (.ref s1), .val (.ref s0), .val (.int nq), .val (.int (1 : Int32)), .val (.double (0 : UInt64)), .second] [(.ref s1)])) _
    refine XS.ifnullNo X27.here hx rfl (hb hby d1_57) rfl ?_
    refine XS.aloadN X27.here hx rfl (hb hby d1_60) rfl rfl ?_
    refine XS.astoreN X27.here hx rfl (hb hby d1_61) rfl rfl (l' := #[.val (.ref t0), .val (.ref s0), .val (.ref s1), .val (.ref s1), .val (.int nq), .val (.int (1 : Int32)), .val (.double (0 : UInt64)), .second]) rfl ?_
    refine XS.aloadN X27.here hx rfl (hb hby d1_62) rfl rfl ?_
    refine X27.arraylength hx (by rw [e27]; exact Arq28.1) (State.isArrayOf_alike hZ2.alike Arq28.2.1) (g := (mkF m 63 #[.val (.ref t0), .val (.ref s0), .val (.ref s1), .val (.ref s1), .val (.int nq), .val (.int (1 : Int32)), .val (.double (0 : UInt64)), .second] [(.ref s1)])) rfl rfl (hb hby d1_63) _ ?_
    rw [len_of Sq28 Nq28]
    show Steps p.tables e below (T27.setTop (mkF m 64 #[.val (.ref t0), .val (.ref s0), .val (.ref s1), .val (.ref s1), .val (.int nq), .val (.int (1 : Int32)), .val (.double (0 : UInt64)), .second] [(.int mq)])) _
    refine XS.istore X27.here hx rfl (hb hby d1_64) rfl (l' := #[.val (.ref t0), .val (.ref s0), .val (.ref s1), .val (.ref s1), .val (.int mq), .val (.int (1 : Int32)), .val (.double (0 : UInt64)), .second]) rfl ?_
    show Steps p.tables e below (T27.setTop (mkF m 66 #[.val (.ref t0), .val (.ref s0), .val (.ref s1), .val (.ref s1), .val (.int mq), .val (.int (1 : Int32)), .val (.double (0 : UInt64)), .second] [])) _
    refine XS.iconst X27.here hx rfl (hb hby d1_66) ?_
    refine XS.istore X27.here hx rfl (hb hby d1_67) rfl (l' := #[.val (.ref t0), .val (.ref s0), .val (.ref s1), .val (.ref s1), .val (.int mq), .val (.int (0 : Int32)), .val (.double (0 : UInt64)), .second]) rfl ?_
    refine XS.iload X27.here hx rfl (hb hby d1_69) rfl ?_
    refine XS.iload X27.here hx rfl (hb hby d1_71) rfl ?_
    refine XS.icmpNo X27.here hx rfl (hb hby d1_73) rfl (tlt hc73).2.1 ?_
    refine XS.aloadN X27.here hx rfl (hb hby d1_76) rfl rfl ?_
    show Steps p.tables e below (T27.setTop (mkF m 77 #[.val (.ref t0), .val (.ref s0), .val (.ref s1), .val (.ref s1), .val (.int mq), .val (.int (0 : Int32)), .val (.double (0 : UInt64)), .second] [(.ref s1)])) _
    refine XS.iload X27.here hx rfl (hb hby d1_77) rfl ?_
    refine X27.daload hx (j := (0 : Int32)) (v := (.double (0 : UInt64))) (by rw [e27]; exact Arq29.1) (State.isArrayOf_alike hZ2.alike Arq29.2.1) Arq29.2.2 (inb_of Sq29 hin79) (Has.at Hq29 (inb_of Sq29 hin79) rfl) (g := (mkF m 79 #[.val (.ref t0), .val (.ref s0), .val (.ref s1), .val (.ref s1), .val (.int mq), .val (.int (0 : Int32)), .val (.double (0 : UInt64)), .second] [(.int (0 : Int32)), (.ref s1)])) rfl rfl (hb hby d1_79) _ ?_
    show Steps p.tables e below (T27.setTop (mkF m 80 #[.val (.ref t0), .val (.ref s0), .val (.ref s1), .val (.ref s1), .val (.int mq), .val (.int (0 : Int32)), .val (.double (0 : UInt64)), .second] [(.double (0 : UInt64))])) _
    refine XS.dstore X27.here hx rfl (hb hby d1_80) rfl (l' := #[.val (.ref t0), .val (.ref s0), .val (.ref s1), .val (.ref s1), .val (.int mq), .val (.int (0 : Int32)), .val (.double (0 : UInt64)), .second]) rfl ?_
    refine XS.dload X27.here hx rfl (hb hby d1_82) rfl ?_
    refine st30 _ ?_
    show Steps p.tables e below (T30.setTop (mkF m 87 #[.val (.ref t0), .val (.ref s0), .val (.ref s1), .val (.ref s1), .val (.int mq), .val (.int (0 : Int32)), .val (.double (0 : UInt64)), .second] [(.double (0 : UInt64))])) _
    jvm_step X30.here [X30.here.top, hx, (hb hby d1_87), Value.category]
    show Steps p.tables e below (T30.setTop (mkF m 88 #[.val (.ref t0), .val (.ref s0), .val (.ref s1), .val (.ref s1), .val (.int mq), .val (.int (0 : Int32)), .val (.double (0 : UInt64)), .second] [])) _
    refine XS.iinc X30.here hx rfl (hb hby d1_88) rfl (l' := #[.val (.ref t0), .val (.ref s0), .val (.ref s1), .val (.ref s1), .val (.int mq), .val (.int ((0 : Int32) + (1 : Int32))), .val (.double (0 : UInt64)), .second]) rfl ?_
    show Steps p.tables e below (T30.setTop (mkF m 91 #[.val (.ref t0), .val (.ref s0), .val (.ref s1), .val (.ref s1), .val (.int mq), .val (.int ((0 : Int32) + (1 : Int32))), .val (.double (0 : UInt64)), .second] [])) _
    rw [show ((0 : Int32) + (1 : Int32)) = (1 : Int32) by decide]
    show Steps p.tables e below (T30.setTop (mkF m 91 #[.val (.ref t0), .val (.ref s0), .val (.ref s1), .val (.ref s1), .val (.int mq), .val (.int (1 : Int32)), .val (.double (0 : UInt64)), .second] [])) _
    refine XS.goto X30.here hx rfl (pc0 := 91) (pc' := 69) rfl (hb hby d1_91) (by decide) (by decide) ?_
    refine XS.iload X30.here hx rfl (hb hby d1_69) rfl ?_
    refine XS.iload X30.here hx rfl (hb hby d1_71) rfl ?_
    refine XS.icmpNo X30.here hx rfl (hb hby d1_73) rfl (tlt hc73_1).2.1 ?_
    show Steps p.tables e below (T30.setTop (mkF m 76 #[.val (.ref t0), .val (.ref s0), .val (.ref s1), .val (.ref s1), .val (.int mq), .val (.int (1 : Int32)), .val (.double (0 : UInt64)), .second] [])) _
    refine XS.aloadN X30.here hx rfl (hb hby d1_76) rfl rfl ?_
    refine XS.iload X30.here hx rfl (hb hby d1_77) rfl ?_
    refine X30.daload hx (j := (1 : Int32)) (v := (.double (0 : UInt64))) (by rw [e30]; exact Arq31.1) (State.isArrayOf_alike hZ2.alike Arq31.2.1) Arq31.2.2 (inb_of Sq31 hin79_1) (Has.at Hq31 (inb_of Sq31 hin79_1) rfl) (g := (mkF m 79 #[.val (.ref t0), .val (.ref s0), .val (.ref s1), .val (.ref s1), .val (.int mq), .val (.int (1 : Int32)), .val (.double (0 : UInt64)), .second] [(.int (1 : Int32)), (.ref s1)])) rfl rfl (hb hby d1_79) _ ?_
    show Steps p.tables e below (T30.setTop (mkF m 80 #[.val (.ref t0), .val (.ref s0), .val (.ref s1), .val (.ref s1), .val (.int mq), .val (.int (1 : Int32)), .val (.double (0 : UInt64)), .second] [(.double (0 : UInt64))])) _
    refine XS.dstore X30.here hx rfl (hb hby d1_80) rfl (l' := #[.val (.ref t0), .val (.ref s0), .val (.ref s1), .val (.ref s1), .val (.int mq), .val (.int (1 : Int32)), .val (.double (0 : UInt64)), .second]) rfl ?_
    refine XS.dload X30.here hx rfl (hb hby d1_82) rfl ?_
    refine st32 _ ?_
    show Steps p.tables e below (T32.setTop (mkF m 87 #[.val (.ref t0), .val (.ref s0), .val (.ref s1), .val (.ref s1), .val (.int mq), .val (.int (1 : Int32)), .val (.double (0 : UInt64)), .second] [(.double (0 : UInt64))])) _
    jvm_step X32.here [X32.here.top, hx, (hb hby d1_87), Value.category]
    show Steps p.tables e below (T32.setTop (mkF m 88 #[.val (.ref t0), .val (.ref s0), .val (.ref s1), .val (.ref s1), .val (.int mq), .val (.int (1 : Int32)), .val (.double (0 : UInt64)), .second] [])) _
    refine XS.iinc X32.here hx rfl (hb hby d1_88) rfl (l' := #[.val (.ref t0), .val (.ref s0), .val (.ref s1), .val (.ref s1), .val (.int mq), .val (.int ((1 : Int32) + (1 : Int32))), .val (.double (0 : UInt64)), .second]) rfl ?_
    show Steps p.tables e below (T32.setTop (mkF m 91 #[.val (.ref t0), .val (.ref s0), .val (.ref s1), .val (.ref s1), .val (.int mq), .val (.int ((1 : Int32) + (1 : Int32))), .val (.double (0 : UInt64)), .second] [])) _
    rw [show ((1 : Int32) + (1 : Int32)) = (2 : Int32) by decide]
    show Steps p.tables e below (T32.setTop (mkF m 91 #[.val (.ref t0), .val (.ref s0), .val (.ref s1), .val (.ref s1), .val (.int mq), .val (.int (2 : Int32)), .val (.double (0 : UInt64)), .second] [])) _
    refine XS.goto X32.here hx rfl (pc0 := 91) (pc' := 69) rfl (hb hby d1_91) (by decide) (by decide) ?_
    refine XS.iload X32.here hx rfl (hb hby d1_69) rfl ?_
    refine XS.iload X32.here hx rfl (hb hby d1_71) rfl ?_
    show Steps p.tables e below (T32.setTop (mkF m 73 #[.val (.ref t0), .val (.ref s0), .val (.ref s1), .val (.ref s1), .val (.int mq), .val (.int (2 : Int32)), .val (.double (0 : UInt64)), .second] [(.int mq), (.int (2 : Int32))])) _
    refine XS.icmpYes X32.here hx rfl (pc0 := 73) (pc' := 94) rfl (hb hby d1_73) rfl (flt hc73_2).2.1 (by decide) (by decide) ?_
    exact X32.returnOut hx Bd.returns (hb hby d1_94) hr
  · show Q_ini12 Z t0 s0 s1 nq ka mq kb h0 n0 _ T32.heap _
    rw [e32]
    exact ⟨rfl, N32, K18, f19, f20, f24⟩
def Q_ini13 (Z : State) (t0 : Addr) (s0 : Addr) (s1 : Addr) (nq : Int32) (ka : ClassId) (mq : Int32) (kb : ClassId) (h0 : Heap) (n0 : Nat) (v : Option Value) (h : Heap) (L : List Loc) : Prop := v = none ∧ Fr n0 L ∧ Keep h0 h [t0] ∧ Exa Z h t0 "com/example/hedge/hedge/RewardStructure" ∧ Fld Z h t0 "com/example/hedge/hedge/RewardStructure" "state" "[D" (.ref s0) ∧ Fld Z h t0 "com/example/hedge/hedge/RewardStructure" "transition" "[D" (.ref s1)
set_option maxRecDepth 65536 in
set_option maxHeartbeats 40000000 in
theorem ini13 (l : Launch) (Z : State) (a0 : Array Value) (hw : ∀ d ∈ tables_1, d.before a0 Z = true) (ws : List Jvm.Cond) (t0 : Addr) (s0 : Addr) (s1 : Addr) (nq : Int32) (ka : ClassId) (mq : Int32) (kb : ClassId) (h0 : Heap) (n0 : Nat) (Z0 : n0 ≤ h0.size) (E_t0 : Exa Z h0 t0 "com/example/hedge/hedge/RewardStructure") (g_t0 : n0 ≤ t0) (F_state_t0 : Fld Z h0 t0 "com/example/hedge/hedge/RewardStructure" "state" "[D" .null) (F_transition_t0 : Fld Z h0 t0 "com/example/hedge/hedge/RewardStructure" "transition" "[D" .null) (E_s0 : Exa Z h0 s0 "[D") (V_s0 : Arv Z h0 s0 ka .double nq [] (.double (0 : UInt64))) (V_s1 : Arv Z h0 s1 kb .double mq [] (.double (0 : UInt64))) (ne_t0_s0 : t0 ≠ s0) (ne_t0_s1 : t0 ≠ s1) (hc35 : (0 : Int32) < nq) (hin41 : ¬ (0 : Int32) < 0 ∧ (0 : Int32) < nq) (hc35_1 : ¬ ((1 : Int32) < nq)) (hc73 : (0 : Int32) < mq) (hin79 : ¬ (0 : Int32) < 0 ∧ (0 : Int32) < mq) (hc73_1 : (1 : Int32) < mq) (hin79_1 : ¬ (1 : Int32) < 0 ∧ (1 : Int32) < mq) (hc73_2 : (2 : Int32) < mq) (hin79_2 : ¬ (2 : Int32) < 0 ∧ (2 : Int32) < mq) (hc73_3 : ¬ ((3 : Int32) < mq)) :
    MetFree l (⟨"com/example/hedge/hedge/RewardStructure", "<init>", "([D[D)V"⟩ : MethodName) (head1 (Jvm.Cond.code (⟨"com/example/hedge/hedge/RewardStructure", "<init>", "([D[D)V"⟩ : MethodName) prog_30_method_1_code 8 none :: ws) ({ frames := 1, cells := 2, slots := 24, locals := 14 } : Room)) (fun a U => a = #[(.ref t0), (.ref s0), (.ref s1)] ∧ Z.Warmed39 U.vm ∧ U.heap = h0) (fun _ _ _ _ _ => True) (fun _ U o U' => ∃ v L, o = .returned v ∧ Q_ini13 Z t0 s0 s1 nq ka mq kb h0 n0 v U'.heap L ∧ ReturnedEndW U o U' L ({ frames := 1, cells := 2, slots := 24, locals := 14 } : Room).cells ({ frames := 1, cells := 2, slots := 24, locals := 14 } : Room).slots) := by
  refine MetFree.of_bodySF (plainFor_of_name pn_com_example_hedge_hedge_RewardStructure) hisR ?_
  intro p e s m args below meth c s₁ Bd hml0 hP hK
  obtain ⟨rfl, hZ, hh⟩ := hP
  have hx := Bd.exec
  have hby := Bd.bytes
  have hml : c.maxLocals = 8 := hml0
  have hown : s.vm.findClass "com/example/hedge/hedge/RewardStructure" = some m.cls := findClass_of_methodNamed Bd.named
  have hnm := (name_of_methodNamed Bd.named Bd.method).1
  have X0 : Stand p l e ({ frames := 1, cells := 2, slots := 24, locals := 14 } : Room) s m #[(.ref t0), (.ref s0), (.ref s1)] below meth c s₁ [] 0 0 := Stand.of_body Bd
  have e0 : s₁.heap = h0 := by rw [← hh, Bd.state]; rfl
  have N0 := Fr.nil n0
  have pre0 : ∀ t, Steps p.tables e below (s₁.setTop (mkF m 0 #[.val (.ref t0), .val (.ref s0), .val (.ref s1), .unset, .unset, .unset, .unset, .unset] [])) t → Steps p.tables e below (s₁.setTop (entryFrame m #[(.ref t0), (.ref s0), (.ref s1)] 8)) t := fun t k => castTop (ef_1_RRR m t0 s0 s1) k
  obtain ⟨vm0, k00, X0, hS0, hk0, hZ0, hown0⟩ := own_W0 X0 e0 hZ hown
  obtain ⟨T1, X1, e1, st1⟩ := initO X0 hx hZ0 hown0 (hw _ (List.mem_of_getElem? (i := 7) rfl)) (hw _ (List.mem_of_getElem? (i := 8) rfl)) (hw _ (List.mem_of_getElem? (i := 9) rfl)) e0 (g := (mkF m 1 #[.val (.ref t0), .val (.ref s0), .val (.ref s1), .unset, .unset, .unset, .unset, .unset] [(.ref t0)])) rfl (by rw [hml]; rfl) rfl (hb hby d1_1) (by decide) (W := 0) (by show 2 * 0 + _ ≤ _; exact Nat.le_of_eq rfl) (by decide)
  obtain ⟨a2, T2, h2, kq2, X2, e2, E2, hS2, hkq2, hZ2, hown2, st2⟩ := ldcS X1 hx hZ0 hown0 (hw _ (List.mem_of_getElem? (i := 10) rfl)) (own_satoms hw) e1 hS0 hk0 (g := (mkF m 6 #[.val (.ref t0), .val (.ref s0), .val (.ref s1), .unset, .unset, .unset, .unset, .unset] [(.ref s0), (.ref t0)])) rfl (hb hby d1_6) (n := 20) (by decide) (by decide) (by decide) (by decide)
  have f3 := E_t0.ext E2
  have f4 := F_state_t0.ext E2
  have f5 := F_transition_t0.ext E2
  have f6 := E_s0.ext E2
  have f7 := V_s0.ext E2
  have f8 := V_s1.ext E2
  have K2 : Keep h0 h2 [t0] := (Keep.refl h0 [t0]).ext E2
  have Zs2 := Nat.le_trans Z0 E2.1
  have hk2 := Nat.le_trans hk0 E2.1
  obtain ⟨_, _, ⟨T9, L9, k9, n9⟩, -, X9, ⟨Lc9, hQ9, lq9, yq9, zq9⟩, st9⟩ := Jvm.LawKit.callS X2 hx (y := (⟨"java/util/Objects", "requireNonNull", "(Ljava/lang/Object;Ljava/lang/String;)Ljava/lang/Object;"⟩ : MethodName)) hown2 (mvT hZ2 (hw _ (List.mem_of_getElem? (i := 18) rfl))) (mvT hZ2 (hw _ (List.mem_of_getElem? (i := 19) rfl))) (mvT hZ2 (hw _ (List.mem_of_getElem? (i := 20) rfl))) (mvT hZ2 (hw _ (List.mem_of_getElem? (i := 21) rfl))) (by decide) (backOf (W := 1) (rn l Z a0 hw [] s0 a2 h2 n0 Zs2 ) hZ2 (hw _ (List.mem_of_getElem? (i := 21) rfl)) (hw _ (List.mem_of_getElem? (i := 20) rfl)) (by decide) (by decide)) (g := (mkF m 8 #[.val (.ref t0), .val (.ref s0), .val (.ref s1), .unset, .unset, .unset, .unset, .unset] [(.ref a2), (.ref s0), (.ref t0)])) rfl (by rw [hml]; rfl) (argsL := [(.ref s0), (.ref a2)]) (rest := [(.ref t0)]) (lenOf pd_0 rfl) rfl (by show 2 * 0 + _ ≤ _; exact Nat.le_of_eq rfl) (hb hby d1_8) (fun _ _ => ⟨rfl, e2, (by decide : 2 + 0 ≤ _), (by decide : 24 + 0 ≤ _)⟩)
  dsimp only [Pt.U, Pt.locs, Pt.cells, Pt.slots] at X9 lq9 yq9 zq9 st9 hQ9
  rw [lq9, yq9, zq9] at X9
  obtain ⟨rfl, N9q, eh9⟩ := hQ9
  have N9 := Fr.app N0 N9q
  have e9 : T9.heap = h2 := eh9
  obtain ⟨T10, X10, e10, st10⟩ := castY X9 hx hZ2 hown2 (hw _ (List.mem_of_getElem? (i := 22) rfl)) e9 (Ins.self f6) (g := (mkF m 11 #[.val (.ref t0), .val (.ref s0), .val (.ref s1), .unset, .unset, .unset, .unset, .unset] [(.ref s0), (.ref t0)])) rfl rfl (hb hby d1_11)
  obtain ⟨T11, h11, X11, e11, W11, st11⟩ := putF X10 hx hZ2 hown2 (host := "") (Or.inl (hw _ (List.mem_of_getElem? (i := 24) rfl))) Via.refl e10 f4 f3 (Or.inr ⟨(hw _ (List.mem_of_getElem? (i := 25) rfl)), rfl, hnm⟩) (hw _ (List.mem_of_getElem? (i := 2) rfl)) (ty := (.array .double)) (by decide) rfl rfl (g := (mkF m 14 #[.val (.ref t0), .val (.ref s0), .val (.ref s1), .unset, .unset, .unset, .unset, .unset] [(.ref s0), (.ref t0)])) rfl rfl (hb hby d1_14)
  have f12 := f3.wr W11
  have f13 := f5.other W11 (Or.inr (so_RewardStructure_transition_state hw))
  have f14 := f6.wr W11
  have f15 := f7.other W11 (Ne.symm ne_t0_s0)
  have f16 := f8.other W11 (Ne.symm ne_t0_s1)
  have K11 : Keep h0 h11 [t0] := K2.wr W11 (Or.inl (List.mem_of_getElem? (i := 0) rfl))
  have Zs11 := Nat.le_trans Zs2 (Keep.of_wr W11).1
  have hk11 := Nat.le_trans hkq2 (Keep.of_wr W11).1
  have N11 := Fr.snoc X11 N9 g_t0
  have f17 : Fld Z h11 t0 "com/example/hedge/hedge/RewardStructure" "state" "[D" (.ref s0) := f4.same W11
  obtain ⟨T18, h18, X18, e18, W18, st18⟩ := putF X11 hx hZ2 hown2 (host := "") (Or.inl (hw _ (List.mem_of_getElem? (i := 26) rfl))) Via.refl e11 f13 f12 (Or.inr ⟨(hw _ (List.mem_of_getElem? (i := 27) rfl)), rfl, hnm⟩) (hw _ (List.mem_of_getElem? (i := 2) rfl)) (ty := (.array .double)) (by decide) rfl rfl (g := (mkF m 19 #[.val (.ref t0), .val (.ref s0), .val (.ref s1), .unset, .unset, .unset, .unset, .unset] [(.ref s1), (.ref t0)])) rfl rfl (hb hby d1_19)
  have f19 := f12.wr W18
  have f20 := f17.other W18 (Or.inr (so_RewardStructure_state_transition hw))
  have f21 := f14.wr W18
  have f22 := f15.other W18 (Ne.symm ne_t0_s0)
  have f23 := f16.other W18 (Ne.symm ne_t0_s1)
  have K18 : Keep h0 h18 [t0] := K11.wr W18 (Or.inl (List.mem_of_getElem? (i := 0) rfl))
  have Zs18 := Nat.le_trans Zs11 (Keep.of_wr W18).1
  have hk18 := Nat.le_trans hk11 (Keep.of_wr W18).1
  have N18 := Fr.snoc X18 N11 g_t0
  have f24 : Fld Z h18 t0 "com/example/hedge/hedge/RewardStructure" "transition" "[D" (.ref s1) := f13.same W18
  obtain ⟨cq25, Arq25, -, Sq25, Nq25, -, -⟩ := id f22
  obtain ⟨cq26, Arq26, -, Sq26, -, Hq26, -⟩ := id f22
  obtain ⟨_, _, ⟨T27, L27, k27, n27⟩, -, X27, ⟨Lc27, hQ27, lq27, yq27, zq27⟩, st27⟩ := Jvm.LawKit.callS X18 hx (y := (⟨"com/example/hedge/hedge/RewardStructure", "checkReward", "(D)D"⟩ : MethodName)) hown2 (mvT hZ2 (hw _ (List.mem_of_getElem? (i := 33) rfl))) (mvT hZ2 (hw _ (List.mem_of_getElem? (i := 34) rfl))) (mvT hZ2 (hw _ (List.mem_of_getElem? (i := 3) rfl))) (mvT hZ2 (hw _ (List.mem_of_getElem? (i := 35) rfl))) (by decide) (backOf (W := 0) (cr l Z a0 hw []  h18 n0 Zs18 ) hZ2 (hw _ (List.mem_of_getElem? (i := 35) rfl)) (hw _ (List.mem_of_getElem? (i := 3) rfl)) (by decide) (by decide)) (g := (mkF m 46 #[.val (.ref t0), .val (.ref s0), .val (.ref s1), .val (.ref s0), .val (.int nq), .val (.int (0 : Int32)), .val (.double (0 : UInt64)), .second] [(.double (0 : UInt64))])) rfl (by rw [hml]; rfl) (argsL := [(.double (0 : UInt64))]) (rest := []) (lenOf pd_1 rfl) rfl (by show 2 * 0 + _ ≤ _; exact Nat.le_of_eq rfl) (hb hby d1_46) (fun _ _ => ⟨rfl, e18, (by decide : 2 + 0 ≤ _), (by decide : 24 + 0 ≤ _)⟩)
  dsimp only [Pt.U, Pt.locs, Pt.cells, Pt.slots] at X27 lq27 yq27 zq27 st27 hQ27
  rw [lq27, yq27, zq27] at X27
  obtain ⟨rfl, N27q, eh27⟩ := hQ27
  have N27 := Fr.app N18 N27q
  have e27 : T27.heap = h18 := eh27
  obtain ⟨cq28, Arq28, -, Sq28, Nq28, -, -⟩ := id f23
  obtain ⟨cq29, Arq29, -, Sq29, -, Hq29, -⟩ := id f23
  obtain ⟨_, _, ⟨T30, L30, k30, n30⟩, -, X30, ⟨Lc30, hQ30, lq30, yq30, zq30⟩, st30⟩ := Jvm.LawKit.callS X27 hx (y := (⟨"com/example/hedge/hedge/RewardStructure", "checkReward", "(D)D"⟩ : MethodName)) hown2 (mvT hZ2 (hw _ (List.mem_of_getElem? (i := 33) rfl))) (mvT hZ2 (hw _ (List.mem_of_getElem? (i := 34) rfl))) (mvT hZ2 (hw _ (List.mem_of_getElem? (i := 3) rfl))) (mvT hZ2 (hw _ (List.mem_of_getElem? (i := 35) rfl))) (by decide) (backOf (W := 0) (cr l Z a0 hw []  h18 n0 Zs18 ) hZ2 (hw _ (List.mem_of_getElem? (i := 35) rfl)) (hw _ (List.mem_of_getElem? (i := 3) rfl)) (by decide) (by decide)) (g := (mkF m 84 #[.val (.ref t0), .val (.ref s0), .val (.ref s1), .val (.ref s1), .val (.int mq), .val (.int (0 : Int32)), .val (.double (0 : UInt64)), .second] [(.double (0 : UInt64))])) rfl (by rw [hml]; rfl) (argsL := [(.double (0 : UInt64))]) (rest := []) (lenOf pd_1 rfl) rfl (by show 2 * 0 + _ ≤ _; exact Nat.le_of_eq rfl) (hb hby d1_84) (fun _ _ => ⟨rfl, e27, (by decide : 2 + 0 ≤ _), (by decide : 24 + 0 ≤ _)⟩)
  dsimp only [Pt.U, Pt.locs, Pt.cells, Pt.slots] at X30 lq30 yq30 zq30 st30 hQ30
  rw [lq30, yq30, zq30] at X30
  obtain ⟨rfl, N30q, eh30⟩ := hQ30
  have N30 := Fr.app N27 N30q
  have e30 : T30.heap = h18 := eh30
  obtain ⟨cq31, Arq31, -, Sq31, -, Hq31, -⟩ := id f23
  obtain ⟨_, _, ⟨T32, L32, k32, n32⟩, -, X32, ⟨Lc32, hQ32, lq32, yq32, zq32⟩, st32⟩ := Jvm.LawKit.callS X30 hx (y := (⟨"com/example/hedge/hedge/RewardStructure", "checkReward", "(D)D"⟩ : MethodName)) hown2 (mvT hZ2 (hw _ (List.mem_of_getElem? (i := 33) rfl))) (mvT hZ2 (hw _ (List.mem_of_getElem? (i := 34) rfl))) (mvT hZ2 (hw _ (List.mem_of_getElem? (i := 3) rfl))) (mvT hZ2 (hw _ (List.mem_of_getElem? (i := 35) rfl))) (by decide) (backOf (W := 0) (cr l Z a0 hw []  h18 n0 Zs18 ) hZ2 (hw _ (List.mem_of_getElem? (i := 35) rfl)) (hw _ (List.mem_of_getElem? (i := 3) rfl)) (by decide) (by decide)) (g := (mkF m 84 #[.val (.ref t0), .val (.ref s0), .val (.ref s1), .val (.ref s1), .val (.int mq), .val (.int (1 : Int32)), .val (.double (0 : UInt64)), .second] [(.double (0 : UInt64))])) rfl (by rw [hml]; rfl) (argsL := [(.double (0 : UInt64))]) (rest := []) (lenOf pd_1 rfl) rfl (by show 2 * 0 + _ ≤ _; exact Nat.le_of_eq rfl) (hb hby d1_84) (fun _ _ => ⟨rfl, e30, (by decide : 2 + 0 ≤ _), (by decide : 24 + 0 ≤ _)⟩)
  dsimp only [Pt.U, Pt.locs, Pt.cells, Pt.slots] at X32 lq32 yq32 zq32 st32 hQ32
  rw [lq32, yq32, zq32] at X32
  obtain ⟨rfl, N32q, eh32⟩ := hQ32
  have N32 := Fr.app N30 N32q
  have e32 : T32.heap = h18 := eh32
  obtain ⟨cq33, Arq33, -, Sq33, -, Hq33, -⟩ := id f23
  obtain ⟨_, _, ⟨T34, L34, k34, n34⟩, -, X34, ⟨Lc34, hQ34, lq34, yq34, zq34⟩, st34⟩ := Jvm.LawKit.callS X32 hx (y := (⟨"com/example/hedge/hedge/RewardStructure", "checkReward", "(D)D"⟩ : MethodName)) hown2 (mvT hZ2 (hw _ (List.mem_of_getElem? (i := 33) rfl))) (mvT hZ2 (hw _ (List.mem_of_getElem? (i := 34) rfl))) (mvT hZ2 (hw _ (List.mem_of_getElem? (i := 3) rfl))) (mvT hZ2 (hw _ (List.mem_of_getElem? (i := 35) rfl))) (by decide) (backOf (W := 0) (cr l Z a0 hw []  h18 n0 Zs18 ) hZ2 (hw _ (List.mem_of_getElem? (i := 35) rfl)) (hw _ (List.mem_of_getElem? (i := 3) rfl)) (by decide) (by decide)) (g := (mkF m 84 #[.val (.ref t0), .val (.ref s0), .val (.ref s1), .val (.ref s1), .val (.int mq), .val (.int (2 : Int32)), .val (.double (0 : UInt64)), .second] [(.double (0 : UInt64))])) rfl (by rw [hml]; rfl) (argsL := [(.double (0 : UInt64))]) (rest := []) (lenOf pd_1 rfl) rfl (by show 2 * 0 + _ ≤ _; exact Nat.le_of_eq rfl) (hb hby d1_84) (fun _ _ => ⟨rfl, e32, (by decide : 2 + 0 ≤ _), (by decide : 24 + 0 ≤ _)⟩)
  dsimp only [Pt.U, Pt.locs, Pt.cells, Pt.slots] at X34 lq34 yq34 zq34 st34 hQ34
  rw [lq34, yq34, zq34] at X34
  obtain ⟨rfl, N34q, eh34⟩ := hQ34
  have N34 := Fr.app N32 N34q
  have e34 : T34.heap = h18 := eh34
  obtain ⟨fs, hr, hrun, hended, hRW⟩ := X34.leaveW hS2 (by rw [e34]; exact hk18) (v := none) (fun _ => rfl)
  refine ⟨_, _, pre0 _ ?_, hrun, hended, _, _, rfl, ?_, ⟨_, rfl⟩, hRW.2.1, hRW.2.2.1, hRW.2.2.2.mono (by decide) (by decide)⟩
  · show Steps p.tables e below (s₁.setTop (mkF m 0 #[.val (.ref t0), .val (.ref s0), .val (.ref s1), .unset, .unset, .unset, .unset, .unset] [])) _
    refine XS.aloadN X0.here hx rfl (hb hby d1_0) rfl rfl ?_
    refine st1 _ ?_
    show Steps p.tables e below (T1.setTop (mkF m 4 #[.val (.ref t0), .val (.ref s0), .val (.ref s1), .unset, .unset, .unset, .unset, .unset] [])) _
    refine XS.aloadN X1.here hx rfl (hb hby d1_4) rfl rfl ?_
    refine XS.aloadN X1.here hx rfl (hb hby d1_5) rfl rfl ?_
    refine st2 _ ?_
    show Steps p.tables e below (T2.setTop (mkF m 8 #[.val (.ref t0), .val (.ref s0), .val (.ref s1), .unset, .unset, .unset, .unset, .unset] [(.ref a2), (.ref s0), (.ref t0)])) _
    refine st9 _ ?_
    show Steps p.tables e below (T9.setTop (mkF m 11 #[.val (.ref t0), .val (.ref s0), .val (.ref s1), .unset, .unset, .unset, .unset, .unset] [(.ref s0), (.ref t0)])) _
    refine st10 _ ?_
    show Steps p.tables e below (T10.setTop (mkF m 14 #[.val (.ref t0), .val (.ref s0), .val (.ref s1), .unset, .unset, .unset, .unset, .unset] [(.ref s0), (.ref t0)])) _
    refine st11 _ ?_
    show Steps p.tables e below (T11.setTop (mkF m 17 #[.val (.ref t0), .val (.ref s0), .val (.ref s1), .unset, .unset, .unset, .unset, .unset] [])) _
    refine XS.aloadN X11.here hx rfl (hb hby d1_17) rfl rfl ?_
    refine XS.aloadN X11.here hx rfl (hb hby d1_18) rfl rfl ?_
    refine st18 _ ?_
    show Steps p.tables e below (T18.setTop (mkF m 22 #[.val (.ref t0), .val (.ref s0), .val (.ref s1), .unset, .unset, .unset, .unset, .unset] [])) _
    refine XS.aloadN X18.here hx rfl (hb hby d1_22) rfl rfl ?_
    refine XS.astoreN X18.here hx rfl (hb hby d1_23) rfl rfl (l' := #[.val (.ref t0), .val (.ref s0), .val (.ref s1), .val (.ref s0), .unset, .unset, .unset, .unset]) rfl ?_
    refine XS.aloadN X18.here hx rfl (hb hby d1_24) rfl rfl ?_
    refine X18.arraylength hx (by rw [e18]; exact Arq25.1) (State.isArrayOf_alike hZ2.alike Arq25.2.1) (g := (mkF m 25 #[.val (.ref t0), .val (.ref s0), .val (.ref s1), .val (.ref s0), .unset, .unset, .unset, .unset] [(.ref s0)])) rfl rfl (hb hby d1_25) _ ?_
    rw [len_of Sq25 Nq25]
    show Steps p.tables e below (T18.setTop (mkF m 26 #[.val (.ref t0), .val (.ref s0), .val (.ref s1), .val (.ref s0), .unset, .unset, .unset, .unset] [(.int nq)])) _
    refine XS.istore X18.here hx rfl (hb hby d1_26) rfl (l' := #[.val (.ref t0), .val (.ref s0), .val (.ref s1), .val (.ref s0), .val (.int nq), .unset, .unset, .unset]) rfl ?_
    refine XS.iconst X18.here hx rfl (hb hby d1_28) ?_
    show Steps p.tables e below (T18.setTop (mkF m 29 #[.val (.ref t0), .val (.ref s0), .val (.ref s1), .val (.ref s0), .val (.int nq), .unset, .unset, .unset] [(.int (0 : Int32))])) _
    refine XS.istore X18.here hx rfl (hb hby d1_29) rfl (l' := #[.val (.ref t0), .val (.ref s0), .val (.ref s1), .val (.ref s0), .val (.int nq), .val (.int (0 : Int32)), .unset, .unset]) rfl ?_
    refine XS.iload X18.here hx rfl (hb hby d1_31) rfl ?_
    refine XS.iload X18.here hx rfl (hb hby d1_33) rfl ?_
    refine XS.icmpNo X18.here hx rfl (hb hby d1_35) rfl (tlt hc35).2.1 ?_
    refine XS.aloadN X18.here hx rfl (hb hby d1_38) rfl rfl ?_
    refine XS.iload X18.here hx rfl (hb hby d1_39) rfl ?_
    show Steps p.tables e below (T18.setTop (mkF m 41 #[.val (.ref t0), .val (.ref s0), .val (.ref s1), .val (.ref s0), .val (.int nq), .val (.int (0 : Int32)), .unset, .unset] [(.int (0 : Int32)), (.ref s0)])) _
    refine X18.daload hx (j := (0 : Int32)) (v := (.double (0 : UInt64))) (by rw [e18]; exact Arq26.1) (State.isArrayOf_alike hZ2.alike Arq26.2.1) Arq26.2.2 (inb_of Sq26 hin41) (Has.at Hq26 (inb_of Sq26 hin41) rfl) (g := (mkF m 41 #[.val (.ref t0), .val (.ref s0), .val (.ref s1), .val (.ref s0), .val (.int nq), .val (.int (0 : Int32)), .unset, .unset] [(.int (0 : Int32)), (.ref s0)])) rfl rfl (hb hby d1_41) _ ?_
    show Steps p.tables e below (T18.setTop (mkF m 42 #[.val (.ref t0), .val (.ref s0), .val (.ref s1), .val (.ref s0), .val (.int nq), .val (.int (0 : Int32)), .unset, .unset] [(.double (0 : UInt64))])) _
    refine XS.dstore X18.here hx rfl (hb hby d1_42) rfl (l' := #[.val (.ref t0), .val (.ref s0), .val (.ref s1), .val (.ref s0), .val (.int nq), .val (.int (0 : Int32)), .val (.double (0 : UInt64)), .second]) rfl ?_
    refine XS.dload X18.here hx rfl (hb hby d1_44) rfl ?_
    refine st27 _ ?_
    show Steps p.tables e below (T27.setTop (mkF m 49 #[.val (.ref t0), .val (.ref s0), .val (.ref s1), .val (.ref s0), .val (.int nq), .val (.int (0 : Int32)), .val (.double (0 : UInt64)), .second] [(.double (0 : UInt64))])) _
    jvm_step X27.here [X27.here.top, hx, (hb hby d1_49), Value.category]
    show Steps p.tables e below (T27.setTop (mkF m 50 #[.val (.ref t0), .val (.ref s0), .val (.ref s1), .val (.ref s0), .val (.int nq), .val (.int (0 : Int32)), .val (.double (0 : UInt64)), .second] [])) _
    refine XS.iinc X27.here hx rfl (hb hby d1_50) rfl (l' := #[.val (.ref t0), .val (.ref s0), .val (.ref s1), .val (.ref s0), .val (.int nq), .val (.int ((0 : Int32) + (1 : Int32))), .val (.double (0 : UInt64)), .second]) rfl ?_
    show Steps p.tables e below (T27.setTop (mkF m 53 #[.val (.ref t0), .val (.ref s0), .val (.ref s1), .val (.ref s0), .val (.int nq), .val (.int ((0 : Int32) + (1 : Int32))), .val (.double (0 : UInt64)), .second] [])) _
    rw [show ((0 : Int32) + (1 : Int32)) = (1 : Int32) by decide]
    show Steps p.tables e below (T27.setTop (mkF m 53 #[.val (.ref t0), .val (.ref s0), .val (.ref s1), .val (.ref s0), .val (.int nq), .val (.int (1 : Int32)), .val (.double (0 : UInt64)), .second] [])) _
    refine XS.goto X27.here hx rfl (pc0 := 53) (pc' := 31) rfl (hb hby d1_53) (by decide) (by decide) ?_
    refine XS.iload X27.here hx rfl (hb hby d1_31) rfl ?_
    refine XS.iload X27.here hx rfl (hb hby d1_33) rfl ?_
    refine XS.icmpYes X27.here hx rfl (pc0 := 35) (pc' := 56) rfl (hb hby d1_35) rfl (flt hc35_1).2.1 (by decide) (by decide) ?_
    refine XS.aloadN X27.here hx rfl (hb hby d1_56) rfl rfl ?_
    show Steps p.tables e below (T27.setTop (mkF m 57 #[.val (.ref t0), .val (.ref s0), .val (.ref s1), .val (.ref s0), .val (.int nq), .val (.int (1 : Int32)), .val (.double (0 : UInt64)), .second] [(.ref s1)])) _
    refine XS.ifnullNo X27.here hx rfl (hb hby d1_57) rfl ?_
    refine XS.aloadN X27.here hx rfl (hb hby d1_60) rfl rfl ?_
    refine XS.astoreN X27.here hx rfl (hb hby d1_61) rfl rfl (l' := #[.val (.ref t0), .val (.ref s0), .val (.ref s1), .val (.ref s1), .val (.int nq), .val (.int (1 : Int32)), .val (.double (0 : UInt64)), .second]) rfl ?_
    refine XS.aloadN X27.here hx rfl (hb hby d1_62) rfl rfl ?_
    refine X27.arraylength hx (by rw [e27]; exact Arq28.1) (State.isArrayOf_alike hZ2.alike Arq28.2.1) (g := (mkF m 63 #[.val (.ref t0), .val (.ref s0), .val (.ref s1), .val (.ref s1), .val (.int nq), .val (.int (1 : Int32)), .val (.double (0 : UInt64)), .second] [(.ref s1)])) rfl rfl (hb hby d1_63) _ ?_
    rw [len_of Sq28 Nq28]
    show Steps p.tables e below (T27.setTop (mkF m 64 #[.val (.ref t0), .val (.ref s0), .val (.ref s1), .val (.ref s1), .val (.int nq), .val (.int (1 : Int32)), .val (.double (0 : UInt64)), .second] [(.int mq)])) _
    refine XS.istore X27.here hx rfl (hb hby d1_64) rfl (l' := #[.val (.ref t0), .val (.ref s0), .val (.ref s1), .val (.ref s1), .val (.int mq), .val (.int (1 : Int32)), .val (.double (0 : UInt64)), .second]) rfl ?_
    show Steps p.tables e below (T27.setTop (mkF m 66 #[.val (.ref t0), .val (.ref s0), .val (.ref s1), .val (.ref s1), .val (.int mq), .val (.int (1 : Int32)), .val (.double (0 : UInt64)), .second] [])) _
    refine XS.iconst X27.here hx rfl (hb hby d1_66) ?_
    refine XS.istore X27.here hx rfl (hb hby d1_67) rfl (l' := #[.val (.ref t0), .val (.ref s0), .val (.ref s1), .val (.ref s1), .val (.int mq), .val (.int (0 : Int32)), .val (.double (0 : UInt64)), .second]) rfl ?_
    refine XS.iload X27.here hx rfl (hb hby d1_69) rfl ?_
    refine XS.iload X27.here hx rfl (hb hby d1_71) rfl ?_
    refine XS.icmpNo X27.here hx rfl (hb hby d1_73) rfl (tlt hc73).2.1 ?_
    refine XS.aloadN X27.here hx rfl (hb hby d1_76) rfl rfl ?_
    show Steps p.tables e below (T27.setTop (mkF m 77 #[.val (.ref t0), .val (.ref s0), .val (.ref s1), .val (.ref s1), .val (.int mq), .val (.int (0 : Int32)), .val (.double (0 : UInt64)), .second] [(.ref s1)])) _
    refine XS.iload X27.here hx rfl (hb hby d1_77) rfl ?_
    refine X27.daload hx (j := (0 : Int32)) (v := (.double (0 : UInt64))) (by rw [e27]; exact Arq29.1) (State.isArrayOf_alike hZ2.alike Arq29.2.1) Arq29.2.2 (inb_of Sq29 hin79) (Has.at Hq29 (inb_of Sq29 hin79) rfl) (g := (mkF m 79 #[.val (.ref t0), .val (.ref s0), .val (.ref s1), .val (.ref s1), .val (.int mq), .val (.int (0 : Int32)), .val (.double (0 : UInt64)), .second] [(.int (0 : Int32)), (.ref s1)])) rfl rfl (hb hby d1_79) _ ?_
    show Steps p.tables e below (T27.setTop (mkF m 80 #[.val (.ref t0), .val (.ref s0), .val (.ref s1), .val (.ref s1), .val (.int mq), .val (.int (0 : Int32)), .val (.double (0 : UInt64)), .second] [(.double (0 : UInt64))])) _
    refine XS.dstore X27.here hx rfl (hb hby d1_80) rfl (l' := #[.val (.ref t0), .val (.ref s0), .val (.ref s1), .val (.ref s1), .val (.int mq), .val (.int (0 : Int32)), .val (.double (0 : UInt64)), .second]) rfl ?_
    refine XS.dload X27.here hx rfl (hb hby d1_82) rfl ?_
    refine st30 _ ?_
    show Steps p.tables e below (T30.setTop (mkF m 87 #[.val (.ref t0), .val (.ref s0), .val (.ref s1), .val (.ref s1), .val (.int mq), .val (.int (0 : Int32)), .val (.double (0 : UInt64)), .second] [(.double (0 : UInt64))])) _
    jvm_step X30.here [X30.here.top, hx, (hb hby d1_87), Value.category]
    show Steps p.tables e below (T30.setTop (mkF m 88 #[.val (.ref t0), .val (.ref s0), .val (.ref s1), .val (.ref s1), .val (.int mq), .val (.int (0 : Int32)), .val (.double (0 : UInt64)), .second] [])) _
    refine XS.iinc X30.here hx rfl (hb hby d1_88) rfl (l' := #[.val (.ref t0), .val (.ref s0), .val (.ref s1), .val (.ref s1), .val (.int mq), .val (.int ((0 : Int32) + (1 : Int32))), .val (.double (0 : UInt64)), .second]) rfl ?_
    show Steps p.tables e below (T30.setTop (mkF m 91 #[.val (.ref t0), .val (.ref s0), .val (.ref s1), .val (.ref s1), .val (.int mq), .val (.int ((0 : Int32) + (1 : Int32))), .val (.double (0 : UInt64)), .second] [])) _
    rw [show ((0 : Int32) + (1 : Int32)) = (1 : Int32) by decide]
    show Steps p.tables e below (T30.setTop (mkF m 91 #[.val (.ref t0), .val (.ref s0), .val (.ref s1), .val (.ref s1), .val (.int mq), .val (.int (1 : Int32)), .val (.double (0 : UInt64)), .second] [])) _
    refine XS.goto X30.here hx rfl (pc0 := 91) (pc' := 69) rfl (hb hby d1_91) (by decide) (by decide) ?_
    refine XS.iload X30.here hx rfl (hb hby d1_69) rfl ?_
    refine XS.iload X30.here hx rfl (hb hby d1_71) rfl ?_
    refine XS.icmpNo X30.here hx rfl (hb hby d1_73) rfl (tlt hc73_1).2.1 ?_
    show Steps p.tables e below (T30.setTop (mkF m 76 #[.val (.ref t0), .val (.ref s0), .val (.ref s1), .val (.ref s1), .val (.int mq), .val (.int (1 : Int32)), .val (.double (0 : UInt64)), .second] [])) _
    refine XS.aloadN X30.here hx rfl (hb hby d1_76) rfl rfl ?_
    refine XS.iload X30.here hx rfl (hb hby d1_77) rfl ?_
    refine X30.daload hx (j := (1 : Int32)) (v := (.double (0 : UInt64))) (by rw [e30]; exact Arq31.1) (State.isArrayOf_alike hZ2.alike Arq31.2.1) Arq31.2.2 (inb_of Sq31 hin79_1) (Has.at Hq31 (inb_of Sq31 hin79_1) rfl) (g := (mkF m 79 #[.val (.ref t0), .val (.ref s0), .val (.ref s1), .val (.ref s1), .val (.int mq), .val (.int (1 : Int32)), .val (.double (0 : UInt64)), .second] [(.int (1 : Int32)), (.ref s1)])) rfl rfl (hb hby d1_79) _ ?_
    show Steps p.tables e below (T30.setTop (mkF m 80 #[.val (.ref t0), .val (.ref s0), .val (.ref s1), .val (.ref s1), .val (.int mq), .val (.int (1 : Int32)), .val (.double (0 : UInt64)), .second] [(.double (0 : UInt64))])) _
    refine XS.dstore X30.here hx rfl (hb hby d1_80) rfl (l' := #[.val (.ref t0), .val (.ref s0), .val (.ref s1), .val (.ref s1), .val (.int mq), .val (.int (1 : Int32)), .val (.double (0 : UInt64)), .second]) rfl ?_
    refine XS.dload X30.here hx rfl (hb hby d1_82) rfl ?_
    refine st32 _ ?_
    show Steps p.tables e below (T32.setTop (mkF m 87 #[.val (.ref t0), .val (.ref s0), .val (.ref s1), .val (.ref s1), .val (.int mq), .val (.int (1 : Int32)), .val (.double (0 : UInt64)), .second] [(.double (0 : UInt64))])) _
    jvm_step X32.here [X32.here.top, hx, (hb hby d1_87), Value.category]
    show Steps p.tables e below (T32.setTop (mkF m 88 #[.val (.ref t0), .val (.ref s0), .val (.ref s1), .val (.ref s1), .val (.int mq), .val (.int (1 : Int32)), .val (.double (0 : UInt64)), .second] [])) _
    refine XS.iinc X32.here hx rfl (hb hby d1_88) rfl (l' := #[.val (.ref t0), .val (.ref s0), .val (.ref s1), .val (.ref s1), .val (.int mq), .val (.int ((1 : Int32) + (1 : Int32))), .val (.double (0 : UInt64)), .second]) rfl ?_
    show Steps p.tables e below (T32.setTop (mkF m 91 #[.val (.ref t0), .val (.ref s0), .val (.ref s1), .val (.ref s1), .val (.int mq), .val (.int ((1 : Int32) + (1 : Int32))), .val (.double (0 : UInt64)), .second] [])) _
    rw [show ((1 : Int32) + (1 : Int32)) = (2 : Int32) by decide]
    show Steps p.tables e below (T32.setTop (mkF m 91 #[.val (.ref t0), .val (.ref s0), .val (.ref s1), .val (.ref s1), .val (.int mq), .val (.int (2 : Int32)), .val (.double (0 : UInt64)), .second] [])) _
    refine XS.goto X32.here hx rfl (pc0 := 91) (pc' := 69) rfl (hb hby d1_91) (by decide) (by decide) ?_
    refine XS.iload X32.here hx rfl (hb hby d1_69) rfl ?_
    refine XS.iload X32.here hx rfl (hb hby d1_71) rfl ?_
    show Steps p.tables e below (T32.setTop (mkF m 73 #[.val (.ref t0), .val (.ref s0), .val (.ref s1), .val (.ref s1), .val (.int mq), .val (.int (2 : Int32)), .val (.double (0 : UInt64)), .second] [(.int mq), (.int (2 : Int32))])) _
    refine XS.icmpNo X32.here hx rfl (hb hby d1_73) rfl (tlt hc73_2).2.1 ?_
    refine XS.aloadN X32.here hx rfl (hb hby d1_76) rfl rfl ?_
    refine XS.iload X32.here hx rfl (hb hby d1_77) rfl ?_
    refine X32.daload hx (j := (2 : Int32)) (v := (.double (0 : UInt64))) (by rw [e32]; exact Arq33.1) (State.isArrayOf_alike hZ2.alike Arq33.2.1) Arq33.2.2 (inb_of Sq33 hin79_2) (Has.at Hq33 (inb_of Sq33 hin79_2) rfl) (g := (mkF m 79 #[.val (.ref t0), .val (.ref s0), .val (.ref s1), .val (.ref s1), .val (.int mq), .val (.int (2 : Int32)), .val (.double (0 : UInt64)), .second] [(.int (2 : Int32)), (.ref s1)])) rfl rfl (hb hby d1_79) _ ?_
    show Steps p.tables e below (T32.setTop (mkF m 80 #[.val (.ref t0), .val (.ref s0), .val (.ref s1), .val (.ref s1), .val (.int mq), .val (.int (2 : Int32)), .val (.double (0 : UInt64)), .second] [(.double (0 : UInt64))])) _
    refine XS.dstore X32.here hx rfl (hb hby d1_80) rfl (l' := #[.val (.ref t0), .val (.ref s0), .val (.ref s1), .val (.ref s1), .val (.int mq), .val (.int (2 : Int32)), .val (.double (0 : UInt64)), .second]) rfl ?_
    refine XS.dload X32.here hx rfl (hb hby d1_82) rfl ?_
    show Steps p.tables e below (T32.setTop (mkF m 84 #[.val (.ref t0), .val (.ref s0), .val (.ref s1), .val (.ref s1), .val (.int mq), .val (.int (2 : Int32)), .val (.double (0 : UInt64)), .second] [(.double (0 : UInt64))])) _
    refine st34 _ ?_
    show Steps p.tables e below (T34.setTop (mkF m 87 #[.val (.ref t0), .val (.ref s0), .val (.ref s1), .val (.ref s1), .val (.int mq), .val (.int (2 : Int32)), .val (.double (0 : UInt64)), .second] [(.double (0 : UInt64))])) _
    jvm_step X34.here [X34.here.top, hx, (hb hby d1_87), Value.category]
    show Steps p.tables e below (T34.setTop (mkF m 88 #[.val (.ref t0), .val (.ref s0), .val (.ref s1), .val (.ref s1), .val (.int mq), .val (.int (2 : Int32)), .val (.double (0 : UInt64)), .second] [])) _
    refine XS.iinc X34.here hx rfl (hb hby d1_88) rfl (l' := #[.val (.ref t0), .val (.ref s0), .val (.ref s1), .val (.ref s1), .val (.int mq), .val (.int ((2 : Int32) + (1 : Int32))), .val (.double (0 : UInt64)), .second]) rfl ?_
    show Steps p.tables e below (T34.setTop (mkF m 91 #[.val (.ref t0), .val (.ref s0), .val (.ref s1), .val (.ref s1), .val (.int mq), .val (.int ((2 : Int32) + (1 : Int32))), .val (.double (0 : UInt64)), .second] [])) _
    rw [show ((2 : Int32) + (1 : Int32)) = (3 : Int32) by decide]
    show Steps p.tables e below (T34.setTop (mkF m 91 #[.val (.ref t0), .val (.ref s0), .val (.ref s1), .val (.ref s1), .val (.int mq), .val (.int (3 : Int32)), .val (.double (0 : UInt64)), .second] [])) _
    refine XS.goto X34.here hx rfl (pc0 := 91) (pc' := 69) rfl (hb hby d1_91) (by decide) (by decide) ?_
    refine XS.iload X34.here hx rfl (hb hby d1_69) rfl ?_
    show Steps p.tables e below (T34.setTop (mkF m 71 #[.val (.ref t0), .val (.ref s0), .val (.ref s1), .val (.ref s1), .val (.int mq), .val (.int (3 : Int32)), .val (.double (0 : UInt64)), .second] [(.int (3 : Int32))])) _
    refine XS.iload X34.here hx rfl (hb hby d1_71) rfl ?_
    refine XS.icmpYes X34.here hx rfl (pc0 := 73) (pc' := 94) rfl (hb hby d1_73) rfl (flt hc73_3).2.1 (by decide) (by decide) ?_
    exact X34.returnOut hx Bd.returns (hb hby d1_94) hr
  · show Q_ini13 Z t0 s0 s1 nq ka mq kb h0 n0 _ T34.heap _
    rw [e34]
    exact ⟨rfl, N34, K18, f19, f20, f24⟩
def Q_ini20 (Z : State) (t0 : Addr) (s0 : Addr) (s1 : Addr) (nq : Int32) (ka : ClassId) (mq : Int32) (kb : ClassId) (h0 : Heap) (n0 : Nat) (v : Option Value) (h : Heap) (L : List Loc) : Prop := v = none ∧ Fr n0 L ∧ Keep h0 h [t0] ∧ Exa Z h t0 "com/example/hedge/hedge/RewardStructure" ∧ Fld Z h t0 "com/example/hedge/hedge/RewardStructure" "state" "[D" (.ref s0) ∧ Fld Z h t0 "com/example/hedge/hedge/RewardStructure" "transition" "[D" (.ref s1)
set_option maxRecDepth 65536 in
set_option maxHeartbeats 40000000 in
theorem ini20 (l : Launch) (Z : State) (a0 : Array Value) (hw : ∀ d ∈ tables_1, d.before a0 Z = true) (ws : List Jvm.Cond) (t0 : Addr) (s0 : Addr) (s1 : Addr) (nq : Int32) (ka : ClassId) (mq : Int32) (kb : ClassId) (h0 : Heap) (n0 : Nat) (Z0 : n0 ≤ h0.size) (E_t0 : Exa Z h0 t0 "com/example/hedge/hedge/RewardStructure") (g_t0 : n0 ≤ t0) (F_state_t0 : Fld Z h0 t0 "com/example/hedge/hedge/RewardStructure" "state" "[D" .null) (F_transition_t0 : Fld Z h0 t0 "com/example/hedge/hedge/RewardStructure" "transition" "[D" .null) (E_s0 : Exa Z h0 s0 "[D") (V_s0 : Arv Z h0 s0 ka .double nq [] (.double (0 : UInt64))) (V_s1 : Arv Z h0 s1 kb .double mq [] (.double (0 : UInt64))) (ne_t0_s0 : t0 ≠ s0) (ne_t0_s1 : t0 ≠ s1) (hc35 : (0 : Int32) < nq) (hin41 : ¬ (0 : Int32) < 0 ∧ (0 : Int32) < nq) (hc35_1 : (1 : Int32) < nq) (hin41_1 : ¬ (1 : Int32) < 0 ∧ (1 : Int32) < nq) (hc35_2 : ¬ ((2 : Int32) < nq)) (hc73 : ¬ ((0 : Int32) < mq)) :
    MetFree l (⟨"com/example/hedge/hedge/RewardStructure", "<init>", "([D[D)V"⟩ : MethodName) (head1 (Jvm.Cond.code (⟨"com/example/hedge/hedge/RewardStructure", "<init>", "([D[D)V"⟩ : MethodName) prog_30_method_1_code 8 none :: ws) ({ frames := 1, cells := 2, slots := 24, locals := 14 } : Room)) (fun a U => a = #[(.ref t0), (.ref s0), (.ref s1)] ∧ Z.Warmed39 U.vm ∧ U.heap = h0) (fun _ _ _ _ _ => True) (fun _ U o U' => ∃ v L, o = .returned v ∧ Q_ini20 Z t0 s0 s1 nq ka mq kb h0 n0 v U'.heap L ∧ ReturnedEndW U o U' L ({ frames := 1, cells := 2, slots := 24, locals := 14 } : Room).cells ({ frames := 1, cells := 2, slots := 24, locals := 14 } : Room).slots) := by
  refine MetFree.of_bodySF (plainFor_of_name pn_com_example_hedge_hedge_RewardStructure) hisR ?_
  intro p e s m args below meth c s₁ Bd hml0 hP hK
  obtain ⟨rfl, hZ, hh⟩ := hP
  have hx := Bd.exec
  have hby := Bd.bytes
  have hml : c.maxLocals = 8 := hml0
  have hown : s.vm.findClass "com/example/hedge/hedge/RewardStructure" = some m.cls := findClass_of_methodNamed Bd.named
  have hnm := (name_of_methodNamed Bd.named Bd.method).1
  have X0 : Stand p l e ({ frames := 1, cells := 2, slots := 24, locals := 14 } : Room) s m #[(.ref t0), (.ref s0), (.ref s1)] below meth c s₁ [] 0 0 := Stand.of_body Bd
  have e0 : s₁.heap = h0 := by rw [← hh, Bd.state]; rfl
  have N0 := Fr.nil n0
  have pre0 : ∀ t, Steps p.tables e below (s₁.setTop (mkF m 0 #[.val (.ref t0), .val (.ref s0), .val (.ref s1), .unset, .unset, .unset, .unset, .unset] [])) t → Steps p.tables e below (s₁.setTop (entryFrame m #[(.ref t0), (.ref s0), (.ref s1)] 8)) t := fun t k => castTop (ef_1_RRR m t0 s0 s1) k
  obtain ⟨vm0, k00, X0, hS0, hk0, hZ0, hown0⟩ := own_W0 X0 e0 hZ hown
  obtain ⟨T1, X1, e1, st1⟩ := initO X0 hx hZ0 hown0 (hw _ (List.mem_of_getElem? (i := 7) rfl)) (hw _ (List.mem_of_getElem? (i := 8) rfl)) (hw _ (List.mem_of_getElem? (i := 9) rfl)) e0 (g := (mkF m 1 #[.val (.ref t0), .val (.ref s0), .val (.ref s1), .unset, .unset, .unset, .unset, .unset] [(.ref t0)])) rfl (by rw [hml]; rfl) rfl (hb hby d1_1) (by decide) (W := 0) (by show 2 * 0 + _ ≤ _; exact Nat.le_of_eq rfl) (by decide)
  obtain ⟨a2, T2, h2, kq2, X2, e2, E2, hS2, hkq2, hZ2, hown2, st2⟩ := ldcS X1 hx hZ0 hown0 (hw _ (List.mem_of_getElem? (i := 10) rfl)) (own_satoms hw) e1 hS0 hk0 (g := (mkF m 6 #[.val (.ref t0), .val (.ref s0), .val (.ref s1), .unset, .unset, .unset, .unset, .unset] [(.ref s0), (.ref t0)])) rfl (hb hby d1_6) (n := 20) (by decide) (by decide) (by decide) (by decide)
  have f3 := E_t0.ext E2
  have f4 := F_state_t0.ext E2
  have f5 := F_transition_t0.ext E2
  have f6 := E_s0.ext E2
  have f7 := V_s0.ext E2
  have f8 := V_s1.ext E2
  have K2 : Keep h0 h2 [t0] := (Keep.refl h0 [t0]).ext E2
  have Zs2 := Nat.le_trans Z0 E2.1
  have hk2 := Nat.le_trans hk0 E2.1
  obtain ⟨_, _, ⟨T9, L9, k9, n9⟩, -, X9, ⟨Lc9, hQ9, lq9, yq9, zq9⟩, st9⟩ := Jvm.LawKit.callS X2 hx (y := (⟨"java/util/Objects", "requireNonNull", "(Ljava/lang/Object;Ljava/lang/String;)Ljava/lang/Object;"⟩ : MethodName)) hown2 (mvT hZ2 (hw _ (List.mem_of_getElem? (i := 18) rfl))) (mvT hZ2 (hw _ (List.mem_of_getElem? (i := 19) rfl))) (mvT hZ2 (hw _ (List.mem_of_getElem? (i := 20) rfl))) (mvT hZ2 (hw _ (List.mem_of_getElem? (i := 21) rfl))) (by decide) (backOf (W := 1) (rn l Z a0 hw [] s0 a2 h2 n0 Zs2 ) hZ2 (hw _ (List.mem_of_getElem? (i := 21) rfl)) (hw _ (List.mem_of_getElem? (i := 20) rfl)) (by decide) (by decide)) (g := (mkF m 8 #[.val (.ref t0), .val (.ref s0), .val (.ref s1), .unset, .unset, .unset, .unset, .unset] [(.ref a2), (.ref s0), (.ref t0)])) rfl (by rw [hml]; rfl) (argsL := [(.ref s0), (.ref a2)]) (rest := [(.ref t0)]) (lenOf pd_0 rfl) rfl (by show 2 * 0 + _ ≤ _; exact Nat.le_of_eq rfl) (hb hby d1_8) (fun _ _ => ⟨rfl, e2, (by decide : 2 + 0 ≤ _), (by decide : 24 + 0 ≤ _)⟩)
  dsimp only [Pt.U, Pt.locs, Pt.cells, Pt.slots] at X9 lq9 yq9 zq9 st9 hQ9
  rw [lq9, yq9, zq9] at X9
  obtain ⟨rfl, N9q, eh9⟩ := hQ9
  have N9 := Fr.app N0 N9q
  have e9 : T9.heap = h2 := eh9
  obtain ⟨T10, X10, e10, st10⟩ := castY X9 hx hZ2 hown2 (hw _ (List.mem_of_getElem? (i := 22) rfl)) e9 (Ins.self f6) (g := (mkF m 11 #[.val (.ref t0), .val (.ref s0), .val (.ref s1), .unset, .unset, .unset, .unset, .unset] [(.ref s0), (.ref t0)])) rfl rfl (hb hby d1_11)
  obtain ⟨T11, h11, X11, e11, W11, st11⟩ := putF X10 hx hZ2 hown2 (host := "") (Or.inl (hw _ (List.mem_of_getElem? (i := 24) rfl))) Via.refl e10 f4 f3 (Or.inr ⟨(hw _ (List.mem_of_getElem? (i := 25) rfl)), rfl, hnm⟩) (hw _ (List.mem_of_getElem? (i := 2) rfl)) (ty := (.array .double)) (by decide) rfl rfl (g := (mkF m 14 #[.val (.ref t0), .val (.ref s0), .val (.ref s1), .unset, .unset, .unset, .unset, .unset] [(.ref s0), (.ref t0)])) rfl rfl (hb hby d1_14)
  have f12 := f3.wr W11
  have f13 := f5.other W11 (Or.inr (so_RewardStructure_transition_state hw))
  have f14 := f6.wr W11
  have f15 := f7.other W11 (Ne.symm ne_t0_s0)
  have f16 := f8.other W11 (Ne.symm ne_t0_s1)
  have K11 : Keep h0 h11 [t0] := K2.wr W11 (Or.inl (List.mem_of_getElem? (i := 0) rfl))
  have Zs11 := Nat.le_trans Zs2 (Keep.of_wr W11).1
  have hk11 := Nat.le_trans hkq2 (Keep.of_wr W11).1
  have N11 := Fr.snoc X11 N9 g_t0
  have f17 : Fld Z h11 t0 "com/example/hedge/hedge/RewardStructure" "state" "[D" (.ref s0) := f4.same W11
  obtain ⟨T18, h18, X18, e18, W18, st18⟩ := putF X11 hx hZ2 hown2 (host := "") (Or.inl (hw _ (List.mem_of_getElem? (i := 26) rfl))) Via.refl e11 f13 f12 (Or.inr ⟨(hw _ (List.mem_of_getElem? (i := 27) rfl)), rfl, hnm⟩) (hw _ (List.mem_of_getElem? (i := 2) rfl)) (ty := (.array .double)) (by decide) rfl rfl (g := (mkF m 19 #[.val (.ref t0), .val (.ref s0), .val (.ref s1), .unset, .unset, .unset, .unset, .unset] [(.ref s1), (.ref t0)])) rfl rfl (hb hby d1_19)
  have f19 := f12.wr W18
  have f20 := f17.other W18 (Or.inr (so_RewardStructure_state_transition hw))
  have f21 := f14.wr W18
  have f22 := f15.other W18 (Ne.symm ne_t0_s0)
  have f23 := f16.other W18 (Ne.symm ne_t0_s1)
  have K18 : Keep h0 h18 [t0] := K11.wr W18 (Or.inl (List.mem_of_getElem? (i := 0) rfl))
  have Zs18 := Nat.le_trans Zs11 (Keep.of_wr W18).1
  have hk18 := Nat.le_trans hk11 (Keep.of_wr W18).1
  have N18 := Fr.snoc X18 N11 g_t0
  have f24 : Fld Z h18 t0 "com/example/hedge/hedge/RewardStructure" "transition" "[D" (.ref s1) := f13.same W18
  obtain ⟨cq25, Arq25, -, Sq25, Nq25, -, -⟩ := id f22
  obtain ⟨cq26, Arq26, -, Sq26, -, Hq26, -⟩ := id f22
  obtain ⟨_, _, ⟨T27, L27, k27, n27⟩, -, X27, ⟨Lc27, hQ27, lq27, yq27, zq27⟩, st27⟩ := Jvm.LawKit.callS X18 hx (y := (⟨"com/example/hedge/hedge/RewardStructure", "checkReward", "(D)D"⟩ : MethodName)) hown2 (mvT hZ2 (hw _ (List.mem_of_getElem? (i := 33) rfl))) (mvT hZ2 (hw _ (List.mem_of_getElem? (i := 34) rfl))) (mvT hZ2 (hw _ (List.mem_of_getElem? (i := 3) rfl))) (mvT hZ2 (hw _ (List.mem_of_getElem? (i := 35) rfl))) (by decide) (backOf (W := 0) (cr l Z a0 hw []  h18 n0 Zs18 ) hZ2 (hw _ (List.mem_of_getElem? (i := 35) rfl)) (hw _ (List.mem_of_getElem? (i := 3) rfl)) (by decide) (by decide)) (g := (mkF m 46 #[.val (.ref t0), .val (.ref s0), .val (.ref s1), .val (.ref s0), .val (.int nq), .val (.int (0 : Int32)), .val (.double (0 : UInt64)), .second] [(.double (0 : UInt64))])) rfl (by rw [hml]; rfl) (argsL := [(.double (0 : UInt64))]) (rest := []) (lenOf pd_1 rfl) rfl (by show 2 * 0 + _ ≤ _; exact Nat.le_of_eq rfl) (hb hby d1_46) (fun _ _ => ⟨rfl, e18, (by decide : 2 + 0 ≤ _), (by decide : 24 + 0 ≤ _)⟩)
  dsimp only [Pt.U, Pt.locs, Pt.cells, Pt.slots] at X27 lq27 yq27 zq27 st27 hQ27
  rw [lq27, yq27, zq27] at X27
  obtain ⟨rfl, N27q, eh27⟩ := hQ27
  have N27 := Fr.app N18 N27q
  have e27 : T27.heap = h18 := eh27
  obtain ⟨cq28, Arq28, -, Sq28, -, Hq28, -⟩ := id f22
  obtain ⟨_, _, ⟨T29, L29, k29, n29⟩, -, X29, ⟨Lc29, hQ29, lq29, yq29, zq29⟩, st29⟩ := Jvm.LawKit.callS X27 hx (y := (⟨"com/example/hedge/hedge/RewardStructure", "checkReward", "(D)D"⟩ : MethodName)) hown2 (mvT hZ2 (hw _ (List.mem_of_getElem? (i := 33) rfl))) (mvT hZ2 (hw _ (List.mem_of_getElem? (i := 34) rfl))) (mvT hZ2 (hw _ (List.mem_of_getElem? (i := 3) rfl))) (mvT hZ2 (hw _ (List.mem_of_getElem? (i := 35) rfl))) (by decide) (backOf (W := 0) (cr l Z a0 hw []  h18 n0 Zs18 ) hZ2 (hw _ (List.mem_of_getElem? (i := 35) rfl)) (hw _ (List.mem_of_getElem? (i := 3) rfl)) (by decide) (by decide)) (g := (mkF m 46 #[.val (.ref t0), .val (.ref s0), .val (.ref s1), .val (.ref s0), .val (.int nq), .val (.int (1 : Int32)), .val (.double (0 : UInt64)), .second] [(.double (0 : UInt64))])) rfl (by rw [hml]; rfl) (argsL := [(.double (0 : UInt64))]) (rest := []) (lenOf pd_1 rfl) rfl (by show 2 * 0 + _ ≤ _; exact Nat.le_of_eq rfl) (hb hby d1_46) (fun _ _ => ⟨rfl, e27, (by decide : 2 + 0 ≤ _), (by decide : 24 + 0 ≤ _)⟩)
  dsimp only [Pt.U, Pt.locs, Pt.cells, Pt.slots] at X29 lq29 yq29 zq29 st29 hQ29
  rw [lq29, yq29, zq29] at X29
  obtain ⟨rfl, N29q, eh29⟩ := hQ29
  have N29 := Fr.app N27 N29q
  have e29 : T29.heap = h18 := eh29
  obtain ⟨cq30, Arq30, -, Sq30, Nq30, -, -⟩ := id f23
  obtain ⟨fs, hr, hrun, hended, hRW⟩ := X29.leaveW hS2 (by rw [e29]; exact hk18) (v := none) (fun _ => rfl)
  refine ⟨_, _, pre0 _ ?_, hrun, hended, _, _, rfl, ?_, ⟨_, rfl⟩, hRW.2.1, hRW.2.2.1, hRW.2.2.2.mono (by decide) (by decide)⟩
  · show Steps p.tables e below (s₁.setTop (mkF m 0 #[.val (.ref t0), .val (.ref s0), .val (.ref s1), .unset, .unset, .unset, .unset, .unset] [])) _
    refine XS.aloadN X0.here hx rfl (hb hby d1_0) rfl rfl ?_
    refine st1 _ ?_
    show Steps p.tables e below (T1.setTop (mkF m 4 #[.val (.ref t0), .val (.ref s0), .val (.ref s1), .unset, .unset, .unset, .unset, .unset] [])) _
    refine XS.aloadN X1.here hx rfl (hb hby d1_4) rfl rfl ?_
    refine XS.aloadN X1.here hx rfl (hb hby d1_5) rfl rfl ?_
    refine st2 _ ?_
    show Steps p.tables e below (T2.setTop (mkF m 8 #[.val (.ref t0), .val (.ref s0), .val (.ref s1), .unset, .unset, .unset, .unset, .unset] [(.ref a2), (.ref s0), (.ref t0)])) _
    refine st9 _ ?_
    show Steps p.tables e below (T9.setTop (mkF m 11 #[.val (.ref t0), .val (.ref s0), .val (.ref s1), .unset, .unset, .unset, .unset, .unset] [(.ref s0), (.ref t0)])) _
    refine st10 _ ?_
    show Steps p.tables e below (T10.setTop (mkF m 14 #[.val (.ref t0), .val (.ref s0), .val (.ref s1), .unset, .unset, .unset, .unset, .unset] [(.ref s0), (.ref t0)])) _
    refine st11 _ ?_
    show Steps p.tables e below (T11.setTop (mkF m 17 #[.val (.ref t0), .val (.ref s0), .val (.ref s1), .unset, .unset, .unset, .unset, .unset] [])) _
    refine XS.aloadN X11.here hx rfl (hb hby d1_17) rfl rfl ?_
    refine XS.aloadN X11.here hx rfl (hb hby d1_18) rfl rfl ?_
    refine st18 _ ?_
    show Steps p.tables e below (T18.setTop (mkF m 22 #[.val (.ref t0), .val (.ref s0), .val (.ref s1), .unset, .unset, .unset, .unset, .unset] [])) _
    refine XS.aloadN X18.here hx rfl (hb hby d1_22) rfl rfl ?_
    refine XS.astoreN X18.here hx rfl (hb hby d1_23) rfl rfl (l' := #[.val (.ref t0), .val (.ref s0), .val (.ref s1), .val (.ref s0), .unset, .unset, .unset, .unset]) rfl ?_
    refine XS.aloadN X18.here hx rfl (hb hby d1_24) rfl rfl ?_
    refine X18.arraylength hx (by rw [e18]; exact Arq25.1) (State.isArrayOf_alike hZ2.alike Arq25.2.1) (g := (mkF m 25 #[.val (.ref t0), .val (.ref s0), .val (.ref s1), .val (.ref s0), .unset, .unset, .unset, .unset] [(.ref s0)])) rfl rfl (hb hby d1_25) _ ?_
    rw [len_of Sq25 Nq25]
    show Steps p.tables e below (T18.setTop (mkF m 26 #[.val (.ref t0), .val (.ref s0), .val (.ref s1), .val (.ref s0), .unset, .unset, .unset, .unset] [(.int nq)])) _
    refine XS.istore X18.here hx rfl (hb hby d1_26) rfl (l' := #[.val (.ref t0), .val (.ref s0), .val (.ref s1), .val (.ref s0), .val (.int nq), .unset, .unset, .unset]) rfl ?_
    refine XS.iconst X18.here hx rfl (hb hby d1_28) ?_
    show Steps p.tables e below (T18.setTop (mkF m 29 #[.val (.ref t0), .val (.ref s0), .val (.ref s1), .val (.ref s0), .val (.int nq), .unset, .unset, .unset] [(.int (0 : Int32))])) _
    refine XS.istore X18.here hx rfl (hb hby d1_29) rfl (l' := #[.val (.ref t0), .val (.ref s0), .val (.ref s1), .val (.ref s0), .val (.int nq), .val (.int (0 : Int32)), .unset, .unset]) rfl ?_
    refine XS.iload X18.here hx rfl (hb hby d1_31) rfl ?_
    refine XS.iload X18.here hx rfl (hb hby d1_33) rfl ?_
    refine XS.icmpNo X18.here hx rfl (hb hby d1_35) rfl (tlt hc35).2.1 ?_
    refine XS.aloadN X18.here hx rfl (hb hby d1_38) rfl rfl ?_
    refine XS.iload X18.here hx rfl (hb hby d1_39) rfl ?_
    show Steps p.tables e below (T18.setTop (mkF m 41 #[.val (.ref t0), .val (.ref s0), .val (.ref s1), .val (.ref s0), .val (.int nq), .val (.int (0 : Int32)), .unset, .unset] [(.int (0 : Int32)), (.ref s0)])) _
    refine X18.daload hx (j := (0 : Int32)) (v := (.double (0 : UInt64))) (by rw [e18]; exact Arq26.1) (State.isArrayOf_alike hZ2.alike Arq26.2.1) Arq26.2.2 (inb_of Sq26 hin41) (Has.at Hq26 (inb_of Sq26 hin41) rfl) (g := (mkF m 41 #[.val (.ref t0), .val (.ref s0), .val (.ref s1), .val (.ref s0), .val (.int nq), .val (.int (0 : Int32)), .unset, .unset] [(.int (0 : Int32)), (.ref s0)])) rfl rfl (hb hby d1_41) _ ?_
    show Steps p.tables e below (T18.setTop (mkF m 42 #[.val (.ref t0), .val (.ref s0), .val (.ref s1), .val (.ref s0), .val (.int nq), .val (.int (0 : Int32)), .unset, .unset] [(.double (0 : UInt64))])) _
    refine XS.dstore X18.here hx rfl (hb hby d1_42) rfl (l' := #[.val (.ref t0), .val (.ref s0), .val (.ref s1), .val (.ref s0), .val (.int nq), .val (.int (0 : Int32)), .val (.double (0 : UInt64)), .second]) rfl ?_
    refine XS.dload X18.here hx rfl (hb hby d1_44) rfl ?_
    refine st27 _ ?_
    show Steps p.tables e below (T27.setTop (mkF m 49 #[.val (.ref t0), .val (.ref s0), .val (.ref s1), .val (.ref s0), .val (.int nq), .val (.int (0 : Int32)), .val (.double (0 : UInt64)), .second] [(.double (0 : UInt64))])) _
    jvm_step X27.here [X27.here.top, hx, (hb hby d1_49), Value.category]
    show Steps p.tables e below (T27.setTop (mkF m 50 #[.val (.ref t0), .val (.ref s0), .val (.ref s1), .val (.ref s0), .val (.int nq), .val (.int (0 : Int32)), .val (.double (0 : UInt64)), .second] [])) _
    refine XS.iinc X27.here hx rfl (hb hby d1_50) rfl (l' := #[.val (.ref t0), .val (.ref s0), .val (.ref s1), .val (.ref s0), .val (.int nq), .val (.int ((0 : Int32) + (1 : Int32))), .val (.double (0 : UInt64)), .second]) rfl ?_
    show Steps p.tables e below (T27.setTop (mkF m 53 #[.val (.ref t0), .val (.ref s0), .val (.ref s1), .val (.ref s0), .val (.int nq), .val (.int ((0 : Int32) + (1 : Int32))), .val (.double (0 : UInt64)), .second] [])) _
    rw [show ((0 : Int32) + (1 : Int32)) = (1 : Int32) by decide]
    show Steps p.tables e below (T27.setTop (mkF m 53 #[.val (.ref t0), .val (.ref s0), .val (.ref s1), .val (.ref s0), .val (.int nq), .val (.int (1 : Int32)), .val (.double (0 : UInt64)), .second] [])) _
    refine XS.goto X27.here hx rfl (pc0 := 53) (pc' := 31) rfl (hb hby d1_53) (by decide) (by decide) ?_
    refine XS.iload X27.here hx rfl (hb hby d1_31) rfl ?_
    refine XS.iload X27.here hx rfl (hb hby d1_33) rfl ?_
    refine XS.icmpNo X27.here hx rfl (hb hby d1_35) rfl (tlt hc35_1).2.1 ?_
    refine XS.aloadN X27.here hx rfl (hb hby d1_38) rfl rfl ?_
    show Steps p.tables e below (T27.setTop (mkF m 39 #[.val (.ref t0), .val (.ref s0), .val (.ref s1), .val (.ref s0), .val (.int nq), .val (.int (1 : Int32)), .val (.double (0 : UInt64)), .second] [(.ref s0)])) _
    refine XS.iload X27.here hx rfl (hb hby d1_39) rfl ?_
    refine X27.daload hx (j := (1 : Int32)) (v := (.double (0 : UInt64))) (by rw [e27]; exact Arq28.1) (State.isArrayOf_alike hZ2.alike Arq28.2.1) Arq28.2.2 (inb_of Sq28 hin41_1) (Has.at Hq28 (inb_of Sq28 hin41_1) rfl) (g := (mkF m 41 #[.val (.ref t0), .val (.ref s0), .val (.ref s1), .val (.ref s0), .val (.int nq), .val (.int (1 : Int32)), .val (.double (0 : UInt64)), .second] [(.int (1 : Int32)), (.ref s0)])) rfl rfl (hb hby d1_41) _ ?_
    show Steps p.tables e below (T27.setTop (mkF m 42 #[.val (.ref t0), .val (.ref s0), .val (.ref s1), .val (.ref s0), .val (.int nq), .val (.int (1 : Int32)), .val (.double (0 : UInt64)), .second] [(.double (0 : UInt64))])) _
    refine XS.dstore X27.here hx rfl (hb hby d1_42) rfl (l' := #[.val (.ref t0), .val (.ref s0), .val (.ref s1), .val (.ref s0), .val (.int nq), .val (.int (1 : Int32)), .val (.double (0 : UInt64)), .second]) rfl ?_
    refine XS.dload X27.here hx rfl (hb hby d1_44) rfl ?_
    refine st29 _ ?_
    show Steps p.tables e below (T29.setTop (mkF m 49 #[.val (.ref t0), .val (.ref s0), .val (.ref s1), .val (.ref s0), .val (.int nq), .val (.int (1 : Int32)), .val (.double (0 : UInt64)), .second] [(.double (0 : UInt64))])) _
    jvm_step X29.here [X29.here.top, hx, (hb hby d1_49), Value.category]
    show Steps p.tables e below (T29.setTop (mkF m 50 #[.val (.ref t0), .val (.ref s0), .val (.ref s1), .val (.ref s0), .val (.int nq), .val (.int (1 : Int32)), .val (.double (0 : UInt64)), .second] [])) _
    refine XS.iinc X29.here hx rfl (hb hby d1_50) rfl (l' := #[.val (.ref t0), .val (.ref s0), .val (.ref s1), .val (.ref s0), .val (.int nq), .val (.int ((1 : Int32) + (1 : Int32))), .val (.double (0 : UInt64)), .second]) rfl ?_
    show Steps p.tables e below (T29.setTop (mkF m 53 #[.val (.ref t0), .val (.ref s0), .val (.ref s1), .val (.ref s0), .val (.int nq), .val (.int ((1 : Int32) + (1 : Int32))), .val (.double (0 : UInt64)), .second] [])) _
    rw [show ((1 : Int32) + (1 : Int32)) = (2 : Int32) by decide]
    show Steps p.tables e below (T29.setTop (mkF m 53 #[.val (.ref t0), .val (.ref s0), .val (.ref s1), .val (.ref s0), .val (.int nq), .val (.int (2 : Int32)), .val (.double (0 : UInt64)), .second] [])) _
    refine XS.goto X29.here hx rfl (pc0 := 53) (pc' := 31) rfl (hb hby d1_53) (by decide) (by decide) ?_
    refine XS.iload X29.here hx rfl (hb hby d1_31) rfl ?_
    refine XS.iload X29.here hx rfl (hb hby d1_33) rfl ?_
    refine XS.icmpYes X29.here hx rfl (pc0 := 35) (pc' := 56) rfl (hb hby d1_35) rfl (flt hc35_2).2.1 (by decide) (by decide) ?_
    show Steps p.tables e below (T29.setTop (mkF m 56 #[.val (.ref t0), .val (.ref s0), .val (.ref s1), .val (.ref s0), .val (.int nq), .val (.int (2 : Int32)), .val (.double (0 : UInt64)), .second] [])) _
    refine XS.aloadN X29.here hx rfl (hb hby d1_56) rfl rfl ?_
    refine XS.ifnullNo X29.here hx rfl (hb hby d1_57) rfl ?_
    refine XS.aloadN X29.here hx rfl (hb hby d1_60) rfl rfl ?_
    refine XS.astoreN X29.here hx rfl (hb hby d1_61) rfl rfl (l' := #[.val (.ref t0), .val (.ref s0), .val (.ref s1), .val (.ref s1), .val (.int nq), .val (.int (2 : Int32)), .val (.double (0 : UInt64)), .second]) rfl ?_
    refine XS.aloadN X29.here hx rfl (hb hby d1_62) rfl rfl ?_
    refine X29.arraylength hx (by rw [e29]; exact Arq30.1) (State.isArrayOf_alike hZ2.alike Arq30.2.1) (g := (mkF m 63 #[.val (.ref t0), .val (.ref s0), .val (.ref s1), .val (.ref s1), .val (.int nq), .val (.int (2 : Int32)), .val (.double (0 : UInt64)), .second] [(.ref s1)])) rfl rfl (hb hby d1_63) _ ?_
    rw [len_of Sq30 Nq30]
    show Steps p.tables e below (T29.setTop (mkF m 64 #[.val (.ref t0), .val (.ref s0), .val (.ref s1), .val (.ref s1), .val (.int nq), .val (.int (2 : Int32)), .val (.double (0 : UInt64)), .second] [(.int mq)])) _
    refine XS.istore X29.here hx rfl (hb hby d1_64) rfl (l' := #[.val (.ref t0), .val (.ref s0), .val (.ref s1), .val (.ref s1), .val (.int mq), .val (.int (2 : Int32)), .val (.double (0 : UInt64)), .second]) rfl ?_
    refine XS.iconst X29.here hx rfl (hb hby d1_66) ?_
    refine XS.istore X29.here hx rfl (hb hby d1_67) rfl (l' := #[.val (.ref t0), .val (.ref s0), .val (.ref s1), .val (.ref s1), .val (.int mq), .val (.int (0 : Int32)), .val (.double (0 : UInt64)), .second]) rfl ?_
    refine XS.iload X29.here hx rfl (hb hby d1_69) rfl ?_
    refine XS.iload X29.here hx rfl (hb hby d1_71) rfl ?_
    refine XS.icmpYes X29.here hx rfl (pc0 := 73) (pc' := 94) rfl (hb hby d1_73) rfl (flt hc73).2.1 (by decide) (by decide) ?_
    show Steps p.tables e below (T29.setTop (mkF m 94 #[.val (.ref t0), .val (.ref s0), .val (.ref s1), .val (.ref s1), .val (.int mq), .val (.int (0 : Int32)), .val (.double (0 : UInt64)), .second] [])) _
    exact X29.returnOut hx Bd.returns (hb hby d1_94) hr
  · show Q_ini20 Z t0 s0 s1 nq ka mq kb h0 n0 _ T29.heap _
    rw [e29]
    exact ⟨rfl, N29, K18, f19, f20, f24⟩
def Q_ini21 (Z : State) (t0 : Addr) (s0 : Addr) (s1 : Addr) (nq : Int32) (ka : ClassId) (mq : Int32) (kb : ClassId) (h0 : Heap) (n0 : Nat) (v : Option Value) (h : Heap) (L : List Loc) : Prop := v = none ∧ Fr n0 L ∧ Keep h0 h [t0] ∧ Exa Z h t0 "com/example/hedge/hedge/RewardStructure" ∧ Fld Z h t0 "com/example/hedge/hedge/RewardStructure" "state" "[D" (.ref s0) ∧ Fld Z h t0 "com/example/hedge/hedge/RewardStructure" "transition" "[D" (.ref s1)
set_option maxRecDepth 65536 in
set_option maxHeartbeats 40000000 in
theorem ini21 (l : Launch) (Z : State) (a0 : Array Value) (hw : ∀ d ∈ tables_1, d.before a0 Z = true) (ws : List Jvm.Cond) (t0 : Addr) (s0 : Addr) (s1 : Addr) (nq : Int32) (ka : ClassId) (mq : Int32) (kb : ClassId) (h0 : Heap) (n0 : Nat) (Z0 : n0 ≤ h0.size) (E_t0 : Exa Z h0 t0 "com/example/hedge/hedge/RewardStructure") (g_t0 : n0 ≤ t0) (F_state_t0 : Fld Z h0 t0 "com/example/hedge/hedge/RewardStructure" "state" "[D" .null) (F_transition_t0 : Fld Z h0 t0 "com/example/hedge/hedge/RewardStructure" "transition" "[D" .null) (E_s0 : Exa Z h0 s0 "[D") (V_s0 : Arv Z h0 s0 ka .double nq [] (.double (0 : UInt64))) (V_s1 : Arv Z h0 s1 kb .double mq [] (.double (0 : UInt64))) (ne_t0_s0 : t0 ≠ s0) (ne_t0_s1 : t0 ≠ s1) (hc35 : (0 : Int32) < nq) (hin41 : ¬ (0 : Int32) < 0 ∧ (0 : Int32) < nq) (hc35_1 : (1 : Int32) < nq) (hin41_1 : ¬ (1 : Int32) < 0 ∧ (1 : Int32) < nq) (hc35_2 : ¬ ((2 : Int32) < nq)) (hc73 : (0 : Int32) < mq) (hin79 : ¬ (0 : Int32) < 0 ∧ (0 : Int32) < mq) (hc73_1 : ¬ ((1 : Int32) < mq)) :
    MetFree l (⟨"com/example/hedge/hedge/RewardStructure", "<init>", "([D[D)V"⟩ : MethodName) (head1 (Jvm.Cond.code (⟨"com/example/hedge/hedge/RewardStructure", "<init>", "([D[D)V"⟩ : MethodName) prog_30_method_1_code 8 none :: ws) ({ frames := 1, cells := 2, slots := 24, locals := 14 } : Room)) (fun a U => a = #[(.ref t0), (.ref s0), (.ref s1)] ∧ Z.Warmed39 U.vm ∧ U.heap = h0) (fun _ _ _ _ _ => True) (fun _ U o U' => ∃ v L, o = .returned v ∧ Q_ini21 Z t0 s0 s1 nq ka mq kb h0 n0 v U'.heap L ∧ ReturnedEndW U o U' L ({ frames := 1, cells := 2, slots := 24, locals := 14 } : Room).cells ({ frames := 1, cells := 2, slots := 24, locals := 14 } : Room).slots) := by
  refine MetFree.of_bodySF (plainFor_of_name pn_com_example_hedge_hedge_RewardStructure) hisR ?_
  intro p e s m args below meth c s₁ Bd hml0 hP hK
  obtain ⟨rfl, hZ, hh⟩ := hP
  have hx := Bd.exec
  have hby := Bd.bytes
  have hml : c.maxLocals = 8 := hml0
  have hown : s.vm.findClass "com/example/hedge/hedge/RewardStructure" = some m.cls := findClass_of_methodNamed Bd.named
  have hnm := (name_of_methodNamed Bd.named Bd.method).1
  have X0 : Stand p l e ({ frames := 1, cells := 2, slots := 24, locals := 14 } : Room) s m #[(.ref t0), (.ref s0), (.ref s1)] below meth c s₁ [] 0 0 := Stand.of_body Bd
  have e0 : s₁.heap = h0 := by rw [← hh, Bd.state]; rfl
  have N0 := Fr.nil n0
  have pre0 : ∀ t, Steps p.tables e below (s₁.setTop (mkF m 0 #[.val (.ref t0), .val (.ref s0), .val (.ref s1), .unset, .unset, .unset, .unset, .unset] [])) t → Steps p.tables e below (s₁.setTop (entryFrame m #[(.ref t0), (.ref s0), (.ref s1)] 8)) t := fun t k => castTop (ef_1_RRR m t0 s0 s1) k
  obtain ⟨vm0, k00, X0, hS0, hk0, hZ0, hown0⟩ := own_W0 X0 e0 hZ hown
  obtain ⟨T1, X1, e1, st1⟩ := initO X0 hx hZ0 hown0 (hw _ (List.mem_of_getElem? (i := 7) rfl)) (hw _ (List.mem_of_getElem? (i := 8) rfl)) (hw _ (List.mem_of_getElem? (i := 9) rfl)) e0 (g := (mkF m 1 #[.val (.ref t0), .val (.ref s0), .val (.ref s1), .unset, .unset, .unset, .unset, .unset] [(.ref t0)])) rfl (by rw [hml]; rfl) rfl (hb hby d1_1) (by decide) (W := 0) (by show 2 * 0 + _ ≤ _; exact Nat.le_of_eq rfl) (by decide)
  obtain ⟨a2, T2, h2, kq2, X2, e2, E2, hS2, hkq2, hZ2, hown2, st2⟩ := ldcS X1 hx hZ0 hown0 (hw _ (List.mem_of_getElem? (i := 10) rfl)) (own_satoms hw) e1 hS0 hk0 (g := (mkF m 6 #[.val (.ref t0), .val (.ref s0), .val (.ref s1), .unset, .unset, .unset, .unset, .unset] [(.ref s0), (.ref t0)])) rfl (hb hby d1_6) (n := 20) (by decide) (by decide) (by decide) (by decide)
  have f3 := E_t0.ext E2
  have f4 := F_state_t0.ext E2
  have f5 := F_transition_t0.ext E2
  have f6 := E_s0.ext E2
  have f7 := V_s0.ext E2
  have f8 := V_s1.ext E2
  have K2 : Keep h0 h2 [t0] := (Keep.refl h0 [t0]).ext E2
  have Zs2 := Nat.le_trans Z0 E2.1
  have hk2 := Nat.le_trans hk0 E2.1
  obtain ⟨_, _, ⟨T9, L9, k9, n9⟩, -, X9, ⟨Lc9, hQ9, lq9, yq9, zq9⟩, st9⟩ := Jvm.LawKit.callS X2 hx (y := (⟨"java/util/Objects", "requireNonNull", "(Ljava/lang/Object;Ljava/lang/String;)Ljava/lang/Object;"⟩ : MethodName)) hown2 (mvT hZ2 (hw _ (List.mem_of_getElem? (i := 18) rfl))) (mvT hZ2 (hw _ (List.mem_of_getElem? (i := 19) rfl))) (mvT hZ2 (hw _ (List.mem_of_getElem? (i := 20) rfl))) (mvT hZ2 (hw _ (List.mem_of_getElem? (i := 21) rfl))) (by decide) (backOf (W := 1) (rn l Z a0 hw [] s0 a2 h2 n0 Zs2 ) hZ2 (hw _ (List.mem_of_getElem? (i := 21) rfl)) (hw _ (List.mem_of_getElem? (i := 20) rfl)) (by decide) (by decide)) (g := (mkF m 8 #[.val (.ref t0), .val (.ref s0), .val (.ref s1), .unset, .unset, .unset, .unset, .unset] [(.ref a2), (.ref s0), (.ref t0)])) rfl (by rw [hml]; rfl) (argsL := [(.ref s0), (.ref a2)]) (rest := [(.ref t0)]) (lenOf pd_0 rfl) rfl (by show 2 * 0 + _ ≤ _; exact Nat.le_of_eq rfl) (hb hby d1_8) (fun _ _ => ⟨rfl, e2, (by decide : 2 + 0 ≤ _), (by decide : 24 + 0 ≤ _)⟩)
  dsimp only [Pt.U, Pt.locs, Pt.cells, Pt.slots] at X9 lq9 yq9 zq9 st9 hQ9
  rw [lq9, yq9, zq9] at X9
  obtain ⟨rfl, N9q, eh9⟩ := hQ9
  have N9 := Fr.app N0 N9q
  have e9 : T9.heap = h2 := eh9
  obtain ⟨T10, X10, e10, st10⟩ := castY X9 hx hZ2 hown2 (hw _ (List.mem_of_getElem? (i := 22) rfl)) e9 (Ins.self f6) (g := (mkF m 11 #[.val (.ref t0), .val (.ref s0), .val (.ref s1), .unset, .unset, .unset, .unset, .unset] [(.ref s0), (.ref t0)])) rfl rfl (hb hby d1_11)
  obtain ⟨T11, h11, X11, e11, W11, st11⟩ := putF X10 hx hZ2 hown2 (host := "") (Or.inl (hw _ (List.mem_of_getElem? (i := 24) rfl))) Via.refl e10 f4 f3 (Or.inr ⟨(hw _ (List.mem_of_getElem? (i := 25) rfl)), rfl, hnm⟩) (hw _ (List.mem_of_getElem? (i := 2) rfl)) (ty := (.array .double)) (by decide) rfl rfl (g := (mkF m 14 #[.val (.ref t0), .val (.ref s0), .val (.ref s1), .unset, .unset, .unset, .unset, .unset] [(.ref s0), (.ref t0)])) rfl rfl (hb hby d1_14)
  have f12 := f3.wr W11
  have f13 := f5.other W11 (Or.inr (so_RewardStructure_transition_state hw))
  have f14 := f6.wr W11
  have f15 := f7.other W11 (Ne.symm ne_t0_s0)
  have f16 := f8.other W11 (Ne.symm ne_t0_s1)
  have K11 : Keep h0 h11 [t0] := K2.wr W11 (Or.inl (List.mem_of_getElem? (i := 0) rfl))
  have Zs11 := Nat.le_trans Zs2 (Keep.of_wr W11).1
  have hk11 := Nat.le_trans hkq2 (Keep.of_wr W11).1
  have N11 := Fr.snoc X11 N9 g_t0
  have f17 : Fld Z h11 t0 "com/example/hedge/hedge/RewardStructure" "state" "[D" (.ref s0) := f4.same W11
  obtain ⟨T18, h18, X18, e18, W18, st18⟩ := putF X11 hx hZ2 hown2 (host := "") (Or.inl (hw _ (List.mem_of_getElem? (i := 26) rfl))) Via.refl e11 f13 f12 (Or.inr ⟨(hw _ (List.mem_of_getElem? (i := 27) rfl)), rfl, hnm⟩) (hw _ (List.mem_of_getElem? (i := 2) rfl)) (ty := (.array .double)) (by decide) rfl rfl (g := (mkF m 19 #[.val (.ref t0), .val (.ref s0), .val (.ref s1), .unset, .unset, .unset, .unset, .unset] [(.ref s1), (.ref t0)])) rfl rfl (hb hby d1_19)
  have f19 := f12.wr W18
  have f20 := f17.other W18 (Or.inr (so_RewardStructure_state_transition hw))
  have f21 := f14.wr W18
  have f22 := f15.other W18 (Ne.symm ne_t0_s0)
  have f23 := f16.other W18 (Ne.symm ne_t0_s1)
  have K18 : Keep h0 h18 [t0] := K11.wr W18 (Or.inl (List.mem_of_getElem? (i := 0) rfl))
  have Zs18 := Nat.le_trans Zs11 (Keep.of_wr W18).1
  have hk18 := Nat.le_trans hk11 (Keep.of_wr W18).1
  have N18 := Fr.snoc X18 N11 g_t0
  have f24 : Fld Z h18 t0 "com/example/hedge/hedge/RewardStructure" "transition" "[D" (.ref s1) := f13.same W18
  obtain ⟨cq25, Arq25, -, Sq25, Nq25, -, -⟩ := id f22
  obtain ⟨cq26, Arq26, -, Sq26, -, Hq26, -⟩ := id f22
  obtain ⟨_, _, ⟨T27, L27, k27, n27⟩, -, X27, ⟨Lc27, hQ27, lq27, yq27, zq27⟩, st27⟩ := Jvm.LawKit.callS X18 hx (y := (⟨"com/example/hedge/hedge/RewardStructure", "checkReward", "(D)D"⟩ : MethodName)) hown2 (mvT hZ2 (hw _ (List.mem_of_getElem? (i := 33) rfl))) (mvT hZ2 (hw _ (List.mem_of_getElem? (i := 34) rfl))) (mvT hZ2 (hw _ (List.mem_of_getElem? (i := 3) rfl))) (mvT hZ2 (hw _ (List.mem_of_getElem? (i := 35) rfl))) (by decide) (backOf (W := 0) (cr l Z a0 hw []  h18 n0 Zs18 ) hZ2 (hw _ (List.mem_of_getElem? (i := 35) rfl)) (hw _ (List.mem_of_getElem? (i := 3) rfl)) (by decide) (by decide)) (g := (mkF m 46 #[.val (.ref t0), .val (.ref s0), .val (.ref s1), .val (.ref s0), .val (.int nq), .val (.int (0 : Int32)), .val (.double (0 : UInt64)), .second] [(.double (0 : UInt64))])) rfl (by rw [hml]; rfl) (argsL := [(.double (0 : UInt64))]) (rest := []) (lenOf pd_1 rfl) rfl (by show 2 * 0 + _ ≤ _; exact Nat.le_of_eq rfl) (hb hby d1_46) (fun _ _ => ⟨rfl, e18, (by decide : 2 + 0 ≤ _), (by decide : 24 + 0 ≤ _)⟩)
  dsimp only [Pt.U, Pt.locs, Pt.cells, Pt.slots] at X27 lq27 yq27 zq27 st27 hQ27
  rw [lq27, yq27, zq27] at X27
  obtain ⟨rfl, N27q, eh27⟩ := hQ27
  have N27 := Fr.app N18 N27q
  have e27 : T27.heap = h18 := eh27
  obtain ⟨cq28, Arq28, -, Sq28, -, Hq28, -⟩ := id f22
  obtain ⟨_, _, ⟨T29, L29, k29, n29⟩, -, X29, ⟨Lc29, hQ29, lq29, yq29, zq29⟩, st29⟩ := Jvm.LawKit.callS X27 hx (y := (⟨"com/example/hedge/hedge/RewardStructure", "checkReward", "(D)D"⟩ : MethodName)) hown2 (mvT hZ2 (hw _ (List.mem_of_getElem? (i := 33) rfl))) (mvT hZ2 (hw _ (List.mem_of_getElem? (i := 34) rfl))) (mvT hZ2 (hw _ (List.mem_of_getElem? (i := 3) rfl))) (mvT hZ2 (hw _ (List.mem_of_getElem? (i := 35) rfl))) (by decide) (backOf (W := 0) (cr l Z a0 hw []  h18 n0 Zs18 ) hZ2 (hw _ (List.mem_of_getElem? (i := 35) rfl)) (hw _ (List.mem_of_getElem? (i := 3) rfl)) (by decide) (by decide)) (g := (mkF m 46 #[.val (.ref t0), .val (.ref s0), .val (.ref s1), .val (.ref s0), .val (.int nq), .val (.int (1 : Int32)), .val (.double (0 : UInt64)), .second] [(.double (0 : UInt64))])) rfl (by rw [hml]; rfl) (argsL := [(.double (0 : UInt64))]) (rest := []) (lenOf pd_1 rfl) rfl (by show 2 * 0 + _ ≤ _; exact Nat.le_of_eq rfl) (hb hby d1_46) (fun _ _ => ⟨rfl, e27, (by decide : 2 + 0 ≤ _), (by decide : 24 + 0 ≤ _)⟩)
  dsimp only [Pt.U, Pt.locs, Pt.cells, Pt.slots] at X29 lq29 yq29 zq29 st29 hQ29
  rw [lq29, yq29, zq29] at X29
  obtain ⟨rfl, N29q, eh29⟩ := hQ29
  have N29 := Fr.app N27 N29q
  have e29 : T29.heap = h18 := eh29
  obtain ⟨cq30, Arq30, -, Sq30, Nq30, -, -⟩ := id f23
  obtain ⟨cq31, Arq31, -, Sq31, -, Hq31, -⟩ := id f23
  obtain ⟨_, _, ⟨T32, L32, k32, n32⟩, -, X32, ⟨Lc32, hQ32, lq32, yq32, zq32⟩, st32⟩ := Jvm.LawKit.callS X29 hx (y := (⟨"com/example/hedge/hedge/RewardStructure", "checkReward", "(D)D"⟩ : MethodName)) hown2 (mvT hZ2 (hw _ (List.mem_of_getElem? (i := 33) rfl))) (mvT hZ2 (hw _ (List.mem_of_getElem? (i := 34) rfl))) (mvT hZ2 (hw _ (List.mem_of_getElem? (i := 3) rfl))) (mvT hZ2 (hw _ (List.mem_of_getElem? (i := 35) rfl))) (by decide) (backOf (W := 0) (cr l Z a0 hw []  h18 n0 Zs18 ) hZ2 (hw _ (List.mem_of_getElem? (i := 35) rfl)) (hw _ (List.mem_of_getElem? (i := 3) rfl)) (by decide) (by decide)) (g := (mkF m 84 #[.val (.ref t0), .val (.ref s0), .val (.ref s1), .val (.ref s1), .val (.int mq), .val (.int (0 : Int32)), .val (.double (0 : UInt64)), .second] [(.double (0 : UInt64))])) rfl (by rw [hml]; rfl) (argsL := [(.double (0 : UInt64))]) (rest := []) (lenOf pd_1 rfl) rfl (by show 2 * 0 + _ ≤ _; exact Nat.le_of_eq rfl) (hb hby d1_84) (fun _ _ => ⟨rfl, e29, (by decide : 2 + 0 ≤ _), (by decide : 24 + 0 ≤ _)⟩)
  dsimp only [Pt.U, Pt.locs, Pt.cells, Pt.slots] at X32 lq32 yq32 zq32 st32 hQ32
  rw [lq32, yq32, zq32] at X32
  obtain ⟨rfl, N32q, eh32⟩ := hQ32
  have N32 := Fr.app N29 N32q
  have e32 : T32.heap = h18 := eh32
  obtain ⟨fs, hr, hrun, hended, hRW⟩ := X32.leaveW hS2 (by rw [e32]; exact hk18) (v := none) (fun _ => rfl)
  refine ⟨_, _, pre0 _ ?_, hrun, hended, _, _, rfl, ?_, ⟨_, rfl⟩, hRW.2.1, hRW.2.2.1, hRW.2.2.2.mono (by decide) (by decide)⟩
  · show Steps p.tables e below (s₁.setTop (mkF m 0 #[.val (.ref t0), .val (.ref s0), .val (.ref s1), .unset, .unset, .unset, .unset, .unset] [])) _
    refine XS.aloadN X0.here hx rfl (hb hby d1_0) rfl rfl ?_
    refine st1 _ ?_
    show Steps p.tables e below (T1.setTop (mkF m 4 #[.val (.ref t0), .val (.ref s0), .val (.ref s1), .unset, .unset, .unset, .unset, .unset] [])) _
    refine XS.aloadN X1.here hx rfl (hb hby d1_4) rfl rfl ?_
    refine XS.aloadN X1.here hx rfl (hb hby d1_5) rfl rfl ?_
    refine st2 _ ?_
    show Steps p.tables e below (T2.setTop (mkF m 8 #[.val (.ref t0), .val (.ref s0), .val (.ref s1), .unset, .unset, .unset, .unset, .unset] [(.ref a2), (.ref s0), (.ref t0)])) _
    refine st9 _ ?_
    show Steps p.tables e below (T9.setTop (mkF m 11 #[.val (.ref t0), .val (.ref s0), .val (.ref s1), .unset, .unset, .unset, .unset, .unset] [(.ref s0), (.ref t0)])) _
    refine st10 _ ?_
    show Steps p.tables e below (T10.setTop (mkF m 14 #[.val (.ref t0), .val (.ref s0), .val (.ref s1), .unset, .unset, .unset, .unset, .unset] [(.ref s0), (.ref t0)])) _
    refine st11 _ ?_
    show Steps p.tables e below (T11.setTop (mkF m 17 #[.val (.ref t0), .val (.ref s0), .val (.ref s1), .unset, .unset, .unset, .unset, .unset] [])) _
    refine XS.aloadN X11.here hx rfl (hb hby d1_17) rfl rfl ?_
    refine XS.aloadN X11.here hx rfl (hb hby d1_18) rfl rfl ?_
    refine st18 _ ?_
    show Steps p.tables e below (T18.setTop (mkF m 22 #[.val (.ref t0), .val (.ref s0), .val (.ref s1), .unset, .unset, .unset, .unset, .unset] [])) _
    refine XS.aloadN X18.here hx rfl (hb hby d1_22) rfl rfl ?_
    refine XS.astoreN X18.here hx rfl (hb hby d1_23) rfl rfl (l' := #[.val (.ref t0), .val (.ref s0), .val (.ref s1), .val (.ref s0), .unset, .unset, .unset, .unset]) rfl ?_
    refine XS.aloadN X18.here hx rfl (hb hby d1_24) rfl rfl ?_
    refine X18.arraylength hx (by rw [e18]; exact Arq25.1) (State.isArrayOf_alike hZ2.alike Arq25.2.1) (g := (mkF m 25 #[.val (.ref t0), .val (.ref s0), .val (.ref s1), .val (.ref s0), .unset, .unset, .unset, .unset] [(.ref s0)])) rfl rfl (hb hby d1_25) _ ?_
    rw [len_of Sq25 Nq25]
    show Steps p.tables e below (T18.setTop (mkF m 26 #[.val (.ref t0), .val (.ref s0), .val (.ref s1), .val (.ref s0), .unset, .unset, .unset, .unset] [(.int nq)])) _
    refine XS.istore X18.here hx rfl (hb hby d1_26) rfl (l' := #[.val (.ref t0), .val (.ref s0), .val (.ref s1), .val (.ref s0), .val (.int nq), .unset, .unset, .unset]) rfl ?_
    refine XS.iconst X18.here hx rfl (hb hby d1_28) ?_
    show Steps p.tables e below (T18.setTop (mkF m 29 #[.val (.ref t0), .val (.ref s0), .val (.ref s1), .val (.ref s0), .val (.int nq), .unset, .unset, .unset] [(.int (0 : Int32))])) _
    refine XS.istore X18.here hx rfl (hb hby d1_29) rfl (l' := #[.val (.ref t0), .val (.ref s0), .val (.ref s1), .val (.ref s0), .val (.int nq), .val (.int (0 : Int32)), .unset, .unset]) rfl ?_
    refine XS.iload X18.here hx rfl (hb hby d1_31) rfl ?_
    refine XS.iload X18.here hx rfl (hb hby d1_33) rfl ?_
    refine XS.icmpNo X18.here hx rfl (hb hby d1_35) rfl (tlt hc35).2.1 ?_
    refine XS.aloadN X18.here hx rfl (hb hby d1_38) rfl rfl ?_
    refine XS.iload X18.here hx rfl (hb hby d1_39) rfl ?_
    show Steps p.tables e below (T18.setTop (mkF m 41 #[.val (.ref t0), .val (.ref s0), .val (.ref s1), .val (.ref s0), .val (.int nq), .val (.int (0 : Int32)), .unset, .unset] [(.int (0 : Int32)), (.ref s0)])) _
    refine X18.daload hx (j := (0 : Int32)) (v := (.double (0 : UInt64))) (by rw [e18]; exact Arq26.1) (State.isArrayOf_alike hZ2.alike Arq26.2.1) Arq26.2.2 (inb_of Sq26 hin41) (Has.at Hq26 (inb_of Sq26 hin41) rfl) (g := (mkF m 41 #[.val (.ref t0), .val (.ref s0), .val (.ref s1), .val (.ref s0), .val (.int nq), .val (.int (0 : Int32)), .unset, .unset] [(.int (0 : Int32)), (.ref s0)])) rfl rfl (hb hby d1_41) _ ?_
    show Steps p.tables e below (T18.setTop (mkF m 42 #[.val (.ref t0), .val (.ref s0), .val (.ref s1), .val (.ref s0), .val (.int nq), .val (.int (0 : Int32)), .unset, .unset] [(.double (0 : UInt64))])) _
    refine XS.dstore X18.here hx rfl (hb hby d1_42) rfl (l' := #[.val (.ref t0), .val (.ref s0), .val (.ref s1), .val (.ref s0), .val (.int nq), .val (.int (0 : Int32)), .val (.double (0 : UInt64)), .second]) rfl ?_
    refine XS.dload X18.here hx rfl (hb hby d1_44) rfl ?_
    refine st27 _ ?_
    show Steps p.tables e below (T27.setTop (mkF m 49 #[.val (.ref t0), .val (.ref s0), .val (.ref s1), .val (.ref s0), .val (.int nq), .val (.int (0 : Int32)), .val (.double (0 : UInt64)), .second] [(.double (0 : UInt64))])) _
    jvm_step X27.here [X27.here.top, hx, (hb hby d1_49), Value.category]
    show Steps p.tables e below (T27.setTop (mkF m 50 #[.val (.ref t0), .val (.ref s0), .val (.ref s1), .val (.ref s0), .val (.int nq), .val (.int (0 : Int32)), .val (.double (0 : UInt64)), .second] [])) _
    refine XS.iinc X27.here hx rfl (hb hby d1_50) rfl (l' := #[.val (.ref t0), .val (.ref s0), .val (.ref s1), .val (.ref s0), .val (.int nq), .val (.int ((0 : Int32) + (1 : Int32))), .val (.double (0 : UInt64)), .second]) rfl ?_
    show Steps p.tables e below (T27.setTop (mkF m 53 #[.val (.ref t0), .val (.ref s0), .val (.ref s1), .val (.ref s0), .val (.int nq), .val (.int ((0 : Int32) + (1 : Int32))), .val (.double (0 : UInt64)), .second] [])) _
    rw [show ((0 : Int32) + (1 : Int32)) = (1 : Int32) by decide]
    show Steps p.tables e below (T27.setTop (mkF m 53 #[.val (.ref t0), .val (.ref s0), .val (.ref s1), .val (.ref s0), .val (.int nq), .val (.int (1 : Int32)), .val (.double (0 : UInt64)), .second] [])) _
    refine XS.goto X27.here hx rfl (pc0 := 53) (pc' := 31) rfl (hb hby d1_53) (by decide) (by decide) ?_
    refine XS.iload X27.here hx rfl (hb hby d1_31) rfl ?_
    refine XS.iload X27.here hx rfl (hb hby d1_33) rfl ?_
    refine XS.icmpNo X27.here hx rfl (hb hby d1_35) rfl (tlt hc35_1).2.1 ?_
    refine XS.aloadN X27.here hx rfl (hb hby d1_38) rfl rfl ?_
    show Steps p.tables e below (T27.setTop (mkF m 39 #[.val (.ref t0), .val (.ref s0), .val (.ref s1), .val (.ref s0), .val (.int nq), .val (.int (1 : Int32)), .val (.double (0 : UInt64)), .second] [(.ref s0)])) _
    refine XS.iload X27.here hx rfl (hb hby d1_39) rfl ?_
    refine X27.daload hx (j := (1 : Int32)) (v := (.double (0 : UInt64))) (by rw [e27]; exact Arq28.1) (State.isArrayOf_alike hZ2.alike Arq28.2.1) Arq28.2.2 (inb_of Sq28 hin41_1) (Has.at Hq28 (inb_of Sq28 hin41_1) rfl) (g := (mkF m 41 #[.val (.ref t0), .val (.ref s0), .val (.ref s1), .val (.ref s0), .val (.int nq), .val (.int (1 : Int32)), .val (.double (0 : UInt64)), .second] [(.int (1 : Int32)), (.ref s0)])) rfl rfl (hb hby d1_41) _ ?_
    show Steps p.tables e below (T27.setTop (mkF m 42 #[.val (.ref t0), .val (.ref s0), .val (.ref s1), .val (.ref s0), .val (.int nq), .val (.int (1 : Int32)), .val (.double (0 : UInt64)), .second] [(.double (0 : UInt64))])) _
    refine XS.dstore X27.here hx rfl (hb hby d1_42) rfl (l' := #[.val (.ref t0), .val (.ref s0), .val (.ref s1), .val (.ref s0), .val (.int nq), .val (.int (1 : Int32)), .val (.double (0 : UInt64)), .second]) rfl ?_
    refine XS.dload X27.here hx rfl (hb hby d1_44) rfl ?_
    refine st29 _ ?_
    show Steps p.tables e below (T29.setTop (mkF m 49 #[.val (.ref t0), .val (.ref s0), .val (.ref s1), .val (.ref s0), .val (.int nq), .val (.int (1 : Int32)), .val (.double (0 : UInt64)), .second] [(.double (0 : UInt64))])) _
    jvm_step X29.here [X29.here.top, hx, (hb hby d1_49), Value.category]
    show Steps p.tables e below (T29.setTop (mkF m 50 #[.val (.ref t0), .val (.ref s0), .val (.ref s1), .val (.ref s0), .val (.int nq), .val (.int (1 : Int32)), .val (.double (0 : UInt64)), .second] [])) _
    refine XS.iinc X29.here hx rfl (hb hby d1_50) rfl (l' := #[.val (.ref t0), .val (.ref s0), .val (.ref s1), .val (.ref s0), .val (.int nq), .val (.int ((1 : Int32) + (1 : Int32))), .val (.double (0 : UInt64)), .second]) rfl ?_
    show Steps p.tables e below (T29.setTop (mkF m 53 #[.val (.ref t0), .val (.ref s0), .val (.ref s1), .val (.ref s0), .val (.int nq), .val (.int ((1 : Int32) + (1 : Int32))), .val (.double (0 : UInt64)), .second] [])) _
    rw [show ((1 : Int32) + (1 : Int32)) = (2 : Int32) by decide]
    show Steps p.tables e below (T29.setTop (mkF m 53 #[.val (.ref t0), .val (.ref s0), .val (.ref s1), .val (.ref s0), .val (.int nq), .val (.int (2 : Int32)), .val (.double (0 : UInt64)), .second] [])) _
    refine XS.goto X29.here hx rfl (pc0 := 53) (pc' := 31) rfl (hb hby d1_53) (by decide) (by decide) ?_
    refine XS.iload X29.here hx rfl (hb hby d1_31) rfl ?_
    refine XS.iload X29.here hx rfl (hb hby d1_33) rfl ?_
    refine XS.icmpYes X29.here hx rfl (pc0 := 35) (pc' := 56) rfl (hb hby d1_35) rfl (flt hc35_2).2.1 (by decide) (by decide) ?_
    show Steps p.tables e below (T29.setTop (mkF m 56 #[.val (.ref t0), .val (.ref s0), .val (.ref s1), .val (.ref s0), .val (.int nq), .val (.int (2 : Int32)), .val (.double (0 : UInt64)), .second] [])) _
    refine XS.aloadN X29.here hx rfl (hb hby d1_56) rfl rfl ?_
    refine XS.ifnullNo X29.here hx rfl (hb hby d1_57) rfl ?_
    refine XS.aloadN X29.here hx rfl (hb hby d1_60) rfl rfl ?_
    refine XS.astoreN X29.here hx rfl (hb hby d1_61) rfl rfl (l' := #[.val (.ref t0), .val (.ref s0), .val (.ref s1), .val (.ref s1), .val (.int nq), .val (.int (2 : Int32)), .val (.double (0 : UInt64)), .second]) rfl ?_
    refine XS.aloadN X29.here hx rfl (hb hby d1_62) rfl rfl ?_
    refine X29.arraylength hx (by rw [e29]; exact Arq30.1) (State.isArrayOf_alike hZ2.alike Arq30.2.1) (g := (mkF m 63 #[.val (.ref t0), .val (.ref s0), .val (.ref s1), .val (.ref s1), .val (.int nq), .val (.int (2 : Int32)), .val (.double (0 : UInt64)), .second] [(.ref s1)])) rfl rfl (hb hby d1_63) _ ?_
    rw [len_of Sq30 Nq30]
    show Steps p.tables e below (T29.setTop (mkF m 64 #[.val (.ref t0), .val (.ref s0), .val (.ref s1), .val (.ref s1), .val (.int nq), .val (.int (2 : Int32)), .val (.double (0 : UInt64)), .second] [(.int mq)])) _
    refine XS.istore X29.here hx rfl (hb hby d1_64) rfl (l' := #[.val (.ref t0), .val (.ref s0), .val (.ref s1), .val (.ref s1), .val (.int mq), .val (.int (2 : Int32)), .val (.double (0 : UInt64)), .second]) rfl ?_
    refine XS.iconst X29.here hx rfl (hb hby d1_66) ?_
    refine XS.istore X29.here hx rfl (hb hby d1_67) rfl (l' := #[.val (.ref t0), .val (.ref s0), .val (.ref s1), .val (.ref s1), .val (.int mq), .val (.int (0 : Int32)), .val (.double (0 : UInt64)), .second]) rfl ?_
    refine XS.iload X29.here hx rfl (hb hby d1_69) rfl ?_
    refine XS.iload X29.here hx rfl (hb hby d1_71) rfl ?_
    refine XS.icmpNo X29.here hx rfl (hb hby d1_73) rfl (tlt hc73).2.1 ?_
    show Steps p.tables e below (T29.setTop (mkF m 76 #[.val (.ref t0), .val (.ref s0), .val (.ref s1), .val (.ref s1), .val (.int mq), .val (.int (0 : Int32)), .val (.double (0 : UInt64)), .second] [])) _
    refine XS.aloadN X29.here hx rfl (hb hby d1_76) rfl rfl ?_
    refine XS.iload X29.here hx rfl (hb hby d1_77) rfl ?_
    refine X29.daload hx (j := (0 : Int32)) (v := (.double (0 : UInt64))) (by rw [e29]; exact Arq31.1) (State.isArrayOf_alike hZ2.alike Arq31.2.1) Arq31.2.2 (inb_of Sq31 hin79) (Has.at Hq31 (inb_of Sq31 hin79) rfl) (g := (mkF m 79 #[.val (.ref t0), .val (.ref s0), .val (.ref s1), .val (.ref s1), .val (.int mq), .val (.int (0 : Int32)), .val (.double (0 : UInt64)), .second] [(.int (0 : Int32)), (.ref s1)])) rfl rfl (hb hby d1_79) _ ?_
    show Steps p.tables e below (T29.setTop (mkF m 80 #[.val (.ref t0), .val (.ref s0), .val (.ref s1), .val (.ref s1), .val (.int mq), .val (.int (0 : Int32)), .val (.double (0 : UInt64)), .second] [(.double (0 : UInt64))])) _
    refine XS.dstore X29.here hx rfl (hb hby d1_80) rfl (l' := #[.val (.ref t0), .val (.ref s0), .val (.ref s1), .val (.ref s1), .val (.int mq), .val (.int (0 : Int32)), .val (.double (0 : UInt64)), .second]) rfl ?_
    refine XS.dload X29.here hx rfl (hb hby d1_82) rfl ?_
    refine st32 _ ?_
    show Steps p.tables e below (T32.setTop (mkF m 87 #[.val (.ref t0), .val (.ref s0), .val (.ref s1), .val (.ref s1), .val (.int mq), .val (.int (0 : Int32)), .val (.double (0 : UInt64)), .second] [(.double (0 : UInt64))])) _
    jvm_step X32.here [X32.here.top, hx, (hb hby d1_87), Value.category]
    show Steps p.tables e below (T32.setTop (mkF m 88 #[.val (.ref t0), .val (.ref s0), .val (.ref s1), .val (.ref s1), .val (.int mq), .val (.int (0 : Int32)), .val (.double (0 : UInt64)), .second] [])) _
    refine XS.iinc X32.here hx rfl (hb hby d1_88) rfl (l' := #[.val (.ref t0), .val (.ref s0), .val (.ref s1), .val (.ref s1), .val (.int mq), .val (.int ((0 : Int32) + (1 : Int32))), .val (.double (0 : UInt64)), .second]) rfl ?_
    show Steps p.tables e below (T32.setTop (mkF m 91 #[.val (.ref t0), .val (.ref s0), .val (.ref s1), .val (.ref s1), .val (.int mq), .val (.int ((0 : Int32) + (1 : Int32))), .val (.double (0 : UInt64)), .second] [])) _
    rw [show ((0 : Int32) + (1 : Int32)) = (1 : Int32) by decide]
    show Steps p.tables e below (T32.setTop (mkF m 91 #[.val (.ref t0), .val (.ref s0), .val (.ref s1), .val (.ref s1), .val (.int mq), .val (.int (1 : Int32)), .val (.double (0 : UInt64)), .second] [])) _
    refine XS.goto X32.here hx rfl (pc0 := 91) (pc' := 69) rfl (hb hby d1_91) (by decide) (by decide) ?_
    refine XS.iload X32.here hx rfl (hb hby d1_69) rfl ?_
    refine XS.iload X32.here hx rfl (hb hby d1_71) rfl ?_
    show Steps p.tables e below (T32.setTop (mkF m 73 #[.val (.ref t0), .val (.ref s0), .val (.ref s1), .val (.ref s1), .val (.int mq), .val (.int (1 : Int32)), .val (.double (0 : UInt64)), .second] [(.int mq), (.int (1 : Int32))])) _
    refine XS.icmpYes X32.here hx rfl (pc0 := 73) (pc' := 94) rfl (hb hby d1_73) rfl (flt hc73_1).2.1 (by decide) (by decide) ?_
    exact X32.returnOut hx Bd.returns (hb hby d1_94) hr
  · show Q_ini21 Z t0 s0 s1 nq ka mq kb h0 n0 _ T32.heap _
    rw [e32]
    exact ⟨rfl, N32, K18, f19, f20, f24⟩
def Q_ini22 (Z : State) (t0 : Addr) (s0 : Addr) (s1 : Addr) (nq : Int32) (ka : ClassId) (mq : Int32) (kb : ClassId) (h0 : Heap) (n0 : Nat) (v : Option Value) (h : Heap) (L : List Loc) : Prop := v = none ∧ Fr n0 L ∧ Keep h0 h [t0] ∧ Exa Z h t0 "com/example/hedge/hedge/RewardStructure" ∧ Fld Z h t0 "com/example/hedge/hedge/RewardStructure" "state" "[D" (.ref s0) ∧ Fld Z h t0 "com/example/hedge/hedge/RewardStructure" "transition" "[D" (.ref s1)
set_option maxRecDepth 65536 in
set_option maxHeartbeats 40000000 in
theorem ini22 (l : Launch) (Z : State) (a0 : Array Value) (hw : ∀ d ∈ tables_1, d.before a0 Z = true) (ws : List Jvm.Cond) (t0 : Addr) (s0 : Addr) (s1 : Addr) (nq : Int32) (ka : ClassId) (mq : Int32) (kb : ClassId) (h0 : Heap) (n0 : Nat) (Z0 : n0 ≤ h0.size) (E_t0 : Exa Z h0 t0 "com/example/hedge/hedge/RewardStructure") (g_t0 : n0 ≤ t0) (F_state_t0 : Fld Z h0 t0 "com/example/hedge/hedge/RewardStructure" "state" "[D" .null) (F_transition_t0 : Fld Z h0 t0 "com/example/hedge/hedge/RewardStructure" "transition" "[D" .null) (E_s0 : Exa Z h0 s0 "[D") (V_s0 : Arv Z h0 s0 ka .double nq [] (.double (0 : UInt64))) (V_s1 : Arv Z h0 s1 kb .double mq [] (.double (0 : UInt64))) (ne_t0_s0 : t0 ≠ s0) (ne_t0_s1 : t0 ≠ s1) (hc35 : (0 : Int32) < nq) (hin41 : ¬ (0 : Int32) < 0 ∧ (0 : Int32) < nq) (hc35_1 : (1 : Int32) < nq) (hin41_1 : ¬ (1 : Int32) < 0 ∧ (1 : Int32) < nq) (hc35_2 : ¬ ((2 : Int32) < nq)) (hc73 : (0 : Int32) < mq) (hin79 : ¬ (0 : Int32) < 0 ∧ (0 : Int32) < mq) (hc73_1 : (1 : Int32) < mq) (hin79_1 : ¬ (1 : Int32) < 0 ∧ (1 : Int32) < mq) (hc73_2 : ¬ ((2 : Int32) < mq)) :
    MetFree l (⟨"com/example/hedge/hedge/RewardStructure", "<init>", "([D[D)V"⟩ : MethodName) (head1 (Jvm.Cond.code (⟨"com/example/hedge/hedge/RewardStructure", "<init>", "([D[D)V"⟩ : MethodName) prog_30_method_1_code 8 none :: ws) ({ frames := 1, cells := 2, slots := 24, locals := 14 } : Room)) (fun a U => a = #[(.ref t0), (.ref s0), (.ref s1)] ∧ Z.Warmed39 U.vm ∧ U.heap = h0) (fun _ _ _ _ _ => True) (fun _ U o U' => ∃ v L, o = .returned v ∧ Q_ini22 Z t0 s0 s1 nq ka mq kb h0 n0 v U'.heap L ∧ ReturnedEndW U o U' L ({ frames := 1, cells := 2, slots := 24, locals := 14 } : Room).cells ({ frames := 1, cells := 2, slots := 24, locals := 14 } : Room).slots) := by
  refine MetFree.of_bodySF (plainFor_of_name pn_com_example_hedge_hedge_RewardStructure) hisR ?_
  intro p e s m args below meth c s₁ Bd hml0 hP hK
  obtain ⟨rfl, hZ, hh⟩ := hP
  have hx := Bd.exec
  have hby := Bd.bytes
  have hml : c.maxLocals = 8 := hml0
  have hown : s.vm.findClass "com/example/hedge/hedge/RewardStructure" = some m.cls := findClass_of_methodNamed Bd.named
  have hnm := (name_of_methodNamed Bd.named Bd.method).1
  have X0 : Stand p l e ({ frames := 1, cells := 2, slots := 24, locals := 14 } : Room) s m #[(.ref t0), (.ref s0), (.ref s1)] below meth c s₁ [] 0 0 := Stand.of_body Bd
  have e0 : s₁.heap = h0 := by rw [← hh, Bd.state]; rfl
  have N0 := Fr.nil n0
  have pre0 : ∀ t, Steps p.tables e below (s₁.setTop (mkF m 0 #[.val (.ref t0), .val (.ref s0), .val (.ref s1), .unset, .unset, .unset, .unset, .unset] [])) t → Steps p.tables e below (s₁.setTop (entryFrame m #[(.ref t0), (.ref s0), (.ref s1)] 8)) t := fun t k => castTop (ef_1_RRR m t0 s0 s1) k
  obtain ⟨vm0, k00, X0, hS0, hk0, hZ0, hown0⟩ := own_W0 X0 e0 hZ hown
  obtain ⟨T1, X1, e1, st1⟩ := initO X0 hx hZ0 hown0 (hw _ (List.mem_of_getElem? (i := 7) rfl)) (hw _ (List.mem_of_getElem? (i := 8) rfl)) (hw _ (List.mem_of_getElem? (i := 9) rfl)) e0 (g := (mkF m 1 #[.val (.ref t0), .val (.ref s0), .val (.ref s1), .unset, .unset, .unset, .unset, .unset] [(.ref t0)])) rfl (by rw [hml]; rfl) rfl (hb hby d1_1) (by decide) (W := 0) (by show 2 * 0 + _ ≤ _; exact Nat.le_of_eq rfl) (by decide)
  obtain ⟨a2, T2, h2, kq2, X2, e2, E2, hS2, hkq2, hZ2, hown2, st2⟩ := ldcS X1 hx hZ0 hown0 (hw _ (List.mem_of_getElem? (i := 10) rfl)) (own_satoms hw) e1 hS0 hk0 (g := (mkF m 6 #[.val (.ref t0), .val (.ref s0), .val (.ref s1), .unset, .unset, .unset, .unset, .unset] [(.ref s0), (.ref t0)])) rfl (hb hby d1_6) (n := 20) (by decide) (by decide) (by decide) (by decide)
  have f3 := E_t0.ext E2
  have f4 := F_state_t0.ext E2
  have f5 := F_transition_t0.ext E2
  have f6 := E_s0.ext E2
  have f7 := V_s0.ext E2
  have f8 := V_s1.ext E2
  have K2 : Keep h0 h2 [t0] := (Keep.refl h0 [t0]).ext E2
  have Zs2 := Nat.le_trans Z0 E2.1
  have hk2 := Nat.le_trans hk0 E2.1
  obtain ⟨_, _, ⟨T9, L9, k9, n9⟩, -, X9, ⟨Lc9, hQ9, lq9, yq9, zq9⟩, st9⟩ := Jvm.LawKit.callS X2 hx (y := (⟨"java/util/Objects", "requireNonNull", "(Ljava/lang/Object;Ljava/lang/String;)Ljava/lang/Object;"⟩ : MethodName)) hown2 (mvT hZ2 (hw _ (List.mem_of_getElem? (i := 18) rfl))) (mvT hZ2 (hw _ (List.mem_of_getElem? (i := 19) rfl))) (mvT hZ2 (hw _ (List.mem_of_getElem? (i := 20) rfl))) (mvT hZ2 (hw _ (List.mem_of_getElem? (i := 21) rfl))) (by decide) (backOf (W := 1) (rn l Z a0 hw [] s0 a2 h2 n0 Zs2 ) hZ2 (hw _ (List.mem_of_getElem? (i := 21) rfl)) (hw _ (List.mem_of_getElem? (i := 20) rfl)) (by decide) (by decide)) (g := (mkF m 8 #[.val (.ref t0), .val (.ref s0), .val (.ref s1), .unset, .unset, .unset, .unset, .unset] [(.ref a2), (.ref s0), (.ref t0)])) rfl (by rw [hml]; rfl) (argsL := [(.ref s0), (.ref a2)]) (rest := [(.ref t0)]) (lenOf pd_0 rfl) rfl (by show 2 * 0 + _ ≤ _; exact Nat.le_of_eq rfl) (hb hby d1_8) (fun _ _ => ⟨rfl, e2, (by decide : 2 + 0 ≤ _), (by decide : 24 + 0 ≤ _)⟩)
  dsimp only [Pt.U, Pt.locs, Pt.cells, Pt.slots] at X9 lq9 yq9 zq9 st9 hQ9
  rw [lq9, yq9, zq9] at X9
  obtain ⟨rfl, N9q, eh9⟩ := hQ9
  have N9 := Fr.app N0 N9q
  have e9 : T9.heap = h2 := eh9
  obtain ⟨T10, X10, e10, st10⟩ := castY X9 hx hZ2 hown2 (hw _ (List.mem_of_getElem? (i := 22) rfl)) e9 (Ins.self f6) (g := (mkF m 11 #[.val (.ref t0), .val (.ref s0), .val (.ref s1), .unset, .unset, .unset, .unset, .unset] [(.ref s0), (.ref t0)])) rfl rfl (hb hby d1_11)
  obtain ⟨T11, h11, X11, e11, W11, st11⟩ := putF X10 hx hZ2 hown2 (host := "") (Or.inl (hw _ (List.mem_of_getElem? (i := 24) rfl))) Via.refl e10 f4 f3 (Or.inr ⟨(hw _ (List.mem_of_getElem? (i := 25) rfl)), rfl, hnm⟩) (hw _ (List.mem_of_getElem? (i := 2) rfl)) (ty := (.array .double)) (by decide) rfl rfl (g := (mkF m 14 #[.val (.ref t0), .val (.ref s0), .val (.ref s1), .unset, .unset, .unset, .unset, .unset] [(.ref s0), (.ref t0)])) rfl rfl (hb hby d1_14)
  have f12 := f3.wr W11
  have f13 := f5.other W11 (Or.inr (so_RewardStructure_transition_state hw))
  have f14 := f6.wr W11
  have f15 := f7.other W11 (Ne.symm ne_t0_s0)
  have f16 := f8.other W11 (Ne.symm ne_t0_s1)
  have K11 : Keep h0 h11 [t0] := K2.wr W11 (Or.inl (List.mem_of_getElem? (i := 0) rfl))
  have Zs11 := Nat.le_trans Zs2 (Keep.of_wr W11).1
  have hk11 := Nat.le_trans hkq2 (Keep.of_wr W11).1
  have N11 := Fr.snoc X11 N9 g_t0
  have f17 : Fld Z h11 t0 "com/example/hedge/hedge/RewardStructure" "state" "[D" (.ref s0) := f4.same W11
  obtain ⟨T18, h18, X18, e18, W18, st18⟩ := putF X11 hx hZ2 hown2 (host := "") (Or.inl (hw _ (List.mem_of_getElem? (i := 26) rfl))) Via.refl e11 f13 f12 (Or.inr ⟨(hw _ (List.mem_of_getElem? (i := 27) rfl)), rfl, hnm⟩) (hw _ (List.mem_of_getElem? (i := 2) rfl)) (ty := (.array .double)) (by decide) rfl rfl (g := (mkF m 19 #[.val (.ref t0), .val (.ref s0), .val (.ref s1), .unset, .unset, .unset, .unset, .unset] [(.ref s1), (.ref t0)])) rfl rfl (hb hby d1_19)
  have f19 := f12.wr W18
  have f20 := f17.other W18 (Or.inr (so_RewardStructure_state_transition hw))
  have f21 := f14.wr W18
  have f22 := f15.other W18 (Ne.symm ne_t0_s0)
  have f23 := f16.other W18 (Ne.symm ne_t0_s1)
  have K18 : Keep h0 h18 [t0] := K11.wr W18 (Or.inl (List.mem_of_getElem? (i := 0) rfl))
  have Zs18 := Nat.le_trans Zs11 (Keep.of_wr W18).1
  have hk18 := Nat.le_trans hk11 (Keep.of_wr W18).1
  have N18 := Fr.snoc X18 N11 g_t0
  have f24 : Fld Z h18 t0 "com/example/hedge/hedge/RewardStructure" "transition" "[D" (.ref s1) := f13.same W18
  obtain ⟨cq25, Arq25, -, Sq25, Nq25, -, -⟩ := id f22
  obtain ⟨cq26, Arq26, -, Sq26, -, Hq26, -⟩ := id f22
  obtain ⟨_, _, ⟨T27, L27, k27, n27⟩, -, X27, ⟨Lc27, hQ27, lq27, yq27, zq27⟩, st27⟩ := Jvm.LawKit.callS X18 hx (y := (⟨"com/example/hedge/hedge/RewardStructure", "checkReward", "(D)D"⟩ : MethodName)) hown2 (mvT hZ2 (hw _ (List.mem_of_getElem? (i := 33) rfl))) (mvT hZ2 (hw _ (List.mem_of_getElem? (i := 34) rfl))) (mvT hZ2 (hw _ (List.mem_of_getElem? (i := 3) rfl))) (mvT hZ2 (hw _ (List.mem_of_getElem? (i := 35) rfl))) (by decide) (backOf (W := 0) (cr l Z a0 hw []  h18 n0 Zs18 ) hZ2 (hw _ (List.mem_of_getElem? (i := 35) rfl)) (hw _ (List.mem_of_getElem? (i := 3) rfl)) (by decide) (by decide)) (g := (mkF m 46 #[.val (.ref t0), .val (.ref s0), .val (.ref s1), .val (.ref s0), .val (.int nq), .val (.int (0 : Int32)), .val (.double (0 : UInt64)), .second] [(.double (0 : UInt64))])) rfl (by rw [hml]; rfl) (argsL := [(.double (0 : UInt64))]) (rest := []) (lenOf pd_1 rfl) rfl (by show 2 * 0 + _ ≤ _; exact Nat.le_of_eq rfl) (hb hby d1_46) (fun _ _ => ⟨rfl, e18, (by decide : 2 + 0 ≤ _), (by decide : 24 + 0 ≤ _)⟩)
  dsimp only [Pt.U, Pt.locs, Pt.cells, Pt.slots] at X27 lq27 yq27 zq27 st27 hQ27
  rw [lq27, yq27, zq27] at X27
  obtain ⟨rfl, N27q, eh27⟩ := hQ27
  have N27 := Fr.app N18 N27q
  have e27 : T27.heap = h18 := eh27
  obtain ⟨cq28, Arq28, -, Sq28, -, Hq28, -⟩ := id f22
  obtain ⟨_, _, ⟨T29, L29, k29, n29⟩, -, X29, ⟨Lc29, hQ29, lq29, yq29, zq29⟩, st29⟩ := Jvm.LawKit.callS X27 hx (y := (⟨"com/example/hedge/hedge/RewardStructure", "checkReward", "(D)D"⟩ : MethodName)) hown2 (mvT hZ2 (hw _ (List.mem_of_getElem? (i := 33) rfl))) (mvT hZ2 (hw _ (List.mem_of_getElem? (i := 34) rfl))) (mvT hZ2 (hw _ (List.mem_of_getElem? (i := 3) rfl))) (mvT hZ2 (hw _ (List.mem_of_getElem? (i := 35) rfl))) (by decide) (backOf (W := 0) (cr l Z a0 hw []  h18 n0 Zs18 ) hZ2 (hw _ (List.mem_of_getElem? (i := 35) rfl)) (hw _ (List.mem_of_getElem? (i := 3) rfl)) (by decide) (by decide)) (g := (mkF m 46 #[.val (.ref t0), .val (.ref s0), .val (.ref s1), .val (.ref s0), .val (.int nq), .val (.int (1 : Int32)), .val (.double (0 : UInt64)), .second] [(.double (0 : UInt64))])) rfl (by rw [hml]; rfl) (argsL := [(.double (0 : UInt64))]) (rest := []) (lenOf pd_1 rfl) rfl (by show 2 * 0 + _ ≤ _; exact Nat.le_of_eq rfl) (hb hby d1_46) (fun _ _ => ⟨rfl, e27, (by decide : 2 + 0 ≤ _), (by decide : 24 + 0 ≤ _)⟩)
  dsimp only [Pt.U, Pt.locs, Pt.cells, Pt.slots] at X29 lq29 yq29 zq29 st29 hQ29
  rw [lq29, yq29, zq29] at X29
  obtain ⟨rfl, N29q, eh29⟩ := hQ29
  have N29 := Fr.app N27 N29q
  have e29 : T29.heap = h18 := eh29
  obtain ⟨cq30, Arq30, -, Sq30, Nq30, -, -⟩ := id f23
  obtain ⟨cq31, Arq31, -, Sq31, -, Hq31, -⟩ := id f23
  obtain ⟨_, _, ⟨T32, L32, k32, n32⟩, -, X32, ⟨Lc32, hQ32, lq32, yq32, zq32⟩, st32⟩ := Jvm.LawKit.callS X29 hx (y := (⟨"com/example/hedge/hedge/RewardStructure", "checkReward", "(D)D"⟩ : MethodName)) hown2 (mvT hZ2 (hw _ (List.mem_of_getElem? (i := 33) rfl))) (mvT hZ2 (hw _ (List.mem_of_getElem? (i := 34) rfl))) (mvT hZ2 (hw _ (List.mem_of_getElem? (i := 3) rfl))) (mvT hZ2 (hw _ (List.mem_of_getElem? (i := 35) rfl))) (by decide) (backOf (W := 0) (cr l Z a0 hw []  h18 n0 Zs18 ) hZ2 (hw _ (List.mem_of_getElem? (i := 35) rfl)) (hw _ (List.mem_of_getElem? (i := 3) rfl)) (by decide) (by decide)) (g := (mkF m 84 #[.val (.ref t0), .val (.ref s0), .val (.ref s1), .val (.ref s1), .val (.int mq), .val (.int (0 : Int32)), .val (.double (0 : UInt64)), .second] [(.double (0 : UInt64))])) rfl (by rw [hml]; rfl) (argsL := [(.double (0 : UInt64))]) (rest := []) (lenOf pd_1 rfl) rfl (by show 2 * 0 + _ ≤ _; exact Nat.le_of_eq rfl) (hb hby d1_84) (fun _ _ => ⟨rfl, e29, (by decide : 2 + 0 ≤ _), (by decide : 24 + 0 ≤ _)⟩)
  dsimp only [Pt.U, Pt.locs, Pt.cells, Pt.slots] at X32 lq32 yq32 zq32 st32 hQ32
  rw [lq32, yq32, zq32] at X32
  obtain ⟨rfl, N32q, eh32⟩ := hQ32
  have N32 := Fr.app N29 N32q
  have e32 : T32.heap = h18 := eh32
  obtain ⟨cq33, Arq33, -, Sq33, -, Hq33, -⟩ := id f23
  obtain ⟨_, _, ⟨T34, L34, k34, n34⟩, -, X34, ⟨Lc34, hQ34, lq34, yq34, zq34⟩, st34⟩ := Jvm.LawKit.callS X32 hx (y := (⟨"com/example/hedge/hedge/RewardStructure", "checkReward", "(D)D"⟩ : MethodName)) hown2 (mvT hZ2 (hw _ (List.mem_of_getElem? (i := 33) rfl))) (mvT hZ2 (hw _ (List.mem_of_getElem? (i := 34) rfl))) (mvT hZ2 (hw _ (List.mem_of_getElem? (i := 3) rfl))) (mvT hZ2 (hw _ (List.mem_of_getElem? (i := 35) rfl))) (by decide) (backOf (W := 0) (cr l Z a0 hw []  h18 n0 Zs18 ) hZ2 (hw _ (List.mem_of_getElem? (i := 35) rfl)) (hw _ (List.mem_of_getElem? (i := 3) rfl)) (by decide) (by decide)) (g := (mkF m 84 #[.val (.ref t0), .val (.ref s0), .val (.ref s1), .val (.ref s1), .val (.int mq), .val (.int (1 : Int32)), .val (.double (0 : UInt64)), .second] [(.double (0 : UInt64))])) rfl (by rw [hml]; rfl) (argsL := [(.double (0 : UInt64))]) (rest := []) (lenOf pd_1 rfl) rfl (by show 2 * 0 + _ ≤ _; exact Nat.le_of_eq rfl) (hb hby d1_84) (fun _ _ => ⟨rfl, e32, (by decide : 2 + 0 ≤ _), (by decide : 24 + 0 ≤ _)⟩)
  dsimp only [Pt.U, Pt.locs, Pt.cells, Pt.slots] at X34 lq34 yq34 zq34 st34 hQ34
  rw [lq34, yq34, zq34] at X34
  obtain ⟨rfl, N34q, eh34⟩ := hQ34
  have N34 := Fr.app N32 N34q
  have e34 : T34.heap = h18 := eh34
  obtain ⟨fs, hr, hrun, hended, hRW⟩ := X34.leaveW hS2 (by rw [e34]; exact hk18) (v := none) (fun _ => rfl)
  refine ⟨_, _, pre0 _ ?_, hrun, hended, _, _, rfl, ?_, ⟨_, rfl⟩, hRW.2.1, hRW.2.2.1, hRW.2.2.2.mono (by decide) (by decide)⟩
  · show Steps p.tables e below (s₁.setTop (mkF m 0 #[.val (.ref t0), .val (.ref s0), .val (.ref s1), .unset, .unset, .unset, .unset, .unset] [])) _
    refine XS.aloadN X0.here hx rfl (hb hby d1_0) rfl rfl ?_
    refine st1 _ ?_
    show Steps p.tables e below (T1.setTop (mkF m 4 #[.val (.ref t0), .val (.ref s0), .val (.ref s1), .unset, .unset, .unset, .unset, .unset] [])) _
    refine XS.aloadN X1.here hx rfl (hb hby d1_4) rfl rfl ?_
    refine XS.aloadN X1.here hx rfl (hb hby d1_5) rfl rfl ?_
    refine st2 _ ?_
    show Steps p.tables e below (T2.setTop (mkF m 8 #[.val (.ref t0), .val (.ref s0), .val (.ref s1), .unset, .unset, .unset, .unset, .unset] [(.ref a2), (.ref s0), (.ref t0)])) _
    refine st9 _ ?_
    show Steps p.tables e below (T9.setTop (mkF m 11 #[.val (.ref t0), .val (.ref s0), .val (.ref s1), .unset, .unset, .unset, .unset, .unset] [(.ref s0), (.ref t0)])) _
    refine st10 _ ?_
    show Steps p.tables e below (T10.setTop (mkF m 14 #[.val (.ref t0), .val (.ref s0), .val (.ref s1), .unset, .unset, .unset, .unset, .unset] [(.ref s0), (.ref t0)])) _
    refine st11 _ ?_
    show Steps p.tables e below (T11.setTop (mkF m 17 #[.val (.ref t0), .val (.ref s0), .val (.ref s1), .unset, .unset, .unset, .unset, .unset] [])) _
    refine XS.aloadN X11.here hx rfl (hb hby d1_17) rfl rfl ?_
    refine XS.aloadN X11.here hx rfl (hb hby d1_18) rfl rfl ?_
    refine st18 _ ?_
    show Steps p.tables e below (T18.setTop (mkF m 22 #[.val (.ref t0), .val (.ref s0), .val (.ref s1), .unset, .unset, .unset, .unset, .unset] [])) _
    refine XS.aloadN X18.here hx rfl (hb hby d1_22) rfl rfl ?_
    refine XS.astoreN X18.here hx rfl (hb hby d1_23) rfl rfl (l' := #[.val (.ref t0), .val (.ref s0), .val (.ref s1), .val (.ref s0), .unset, .unset, .unset, .unset]) rfl ?_
    refine XS.aloadN X18.here hx rfl (hb hby d1_24) rfl rfl ?_
    refine X18.arraylength hx (by rw [e18]; exact Arq25.1) (State.isArrayOf_alike hZ2.alike Arq25.2.1) (g := (mkF m 25 #[.val (.ref t0), .val (.ref s0), .val (.ref s1), .val (.ref s0), .unset, .unset, .unset, .unset] [(.ref s0)])) rfl rfl (hb hby d1_25) _ ?_
    rw [len_of Sq25 Nq25]
    show Steps p.tables e below (T18.setTop (mkF m 26 #[.val (.ref t0), .val (.ref s0), .val (.ref s1), .val (.ref s0), .unset, .unset, .unset, .unset] [(.int nq)])) _
    refine XS.istore X18.here hx rfl (hb hby d1_26) rfl (l' := #[.val (.ref t0), .val (.ref s0), .val (.ref s1), .val (.ref s0), .val (.int nq), .unset, .unset, .unset]) rfl ?_
    refine XS.iconst X18.here hx rfl (hb hby d1_28) ?_
    show Steps p.tables e below (T18.setTop (mkF m 29 #[.val (.ref t0), .val (.ref s0), .val (.ref s1), .val (.ref s0), .val (.int nq), .unset, .unset, .unset] [(.int (0 : Int32))])) _
    refine XS.istore X18.here hx rfl (hb hby d1_29) rfl (l' := #[.val (.ref t0), .val (.ref s0), .val (.ref s1), .val (.ref s0), .val (.int nq), .val (.int (0 : Int32)), .unset, .unset]) rfl ?_
    refine XS.iload X18.here hx rfl (hb hby d1_31) rfl ?_
    refine XS.iload X18.here hx rfl (hb hby d1_33) rfl ?_
    refine XS.icmpNo X18.here hx rfl (hb hby d1_35) rfl (tlt hc35).2.1 ?_
    refine XS.aloadN X18.here hx rfl (hb hby d1_38) rfl rfl ?_
    refine XS.iload X18.here hx rfl (hb hby d1_39) rfl ?_
    show Steps p.tables e below (T18.setTop (mkF m 41 #[.val (.ref t0), .val (.ref s0), .val (.ref s1), .val (.ref s0), .val (.int nq), .val (.int (0 : Int32)), .unset, .unset] [(.int (0 : Int32)), (.ref s0)])) _
    refine X18.daload hx (j := (0 : Int32)) (v := (.double (0 : UInt64))) (by rw [e18]; exact Arq26.1) (State.isArrayOf_alike hZ2.alike Arq26.2.1) Arq26.2.2 (inb_of Sq26 hin41) (Has.at Hq26 (inb_of Sq26 hin41) rfl) (g := (mkF m 41 #[.val (.ref t0), .val (.ref s0), .val (.ref s1), .val (.ref s0), .val (.int nq), .val (.int (0 : Int32)), .unset, .unset] [(.int (0 : Int32)), (.ref s0)])) rfl rfl (hb hby d1_41) _ ?_
    show Steps p.tables e below (T18.setTop (mkF m 42 #[.val (.ref t0), .val (.ref s0), .val (.ref s1), .val (.ref s0), .val (.int nq), .val (.int (0 : Int32)), .unset, .unset] [(.double (0 : UInt64))])) _
    refine XS.dstore X18.here hx rfl (hb hby d1_42) rfl (l' := #[.val (.ref t0), .val (.ref s0), .val (.ref s1), .val (.ref s0), .val (.int nq), .val (.int (0 : Int32)), .val (.double (0 : UInt64)), .second]) rfl ?_
    refine XS.dload X18.here hx rfl (hb hby d1_44) rfl ?_
    refine st27 _ ?_
    show Steps p.tables e below (T27.setTop (mkF m 49 #[.val (.ref t0), .val (.ref s0), .val (.ref s1), .val (.ref s0), .val (.int nq), .val (.int (0 : Int32)), .val (.double (0 : UInt64)), .second] [(.double (0 : UInt64))])) _
    jvm_step X27.here [X27.here.top, hx, (hb hby d1_49), Value.category]
    show Steps p.tables e below (T27.setTop (mkF m 50 #[.val (.ref t0), .val (.ref s0), .val (.ref s1), .val (.ref s0), .val (.int nq), .val (.int (0 : Int32)), .val (.double (0 : UInt64)), .second] [])) _
    refine XS.iinc X27.here hx rfl (hb hby d1_50) rfl (l' := #[.val (.ref t0), .val (.ref s0), .val (.ref s1), .val (.ref s0), .val (.int nq), .val (.int ((0 : Int32) + (1 : Int32))), .val (.double (0 : UInt64)), .second]) rfl ?_
    show Steps p.tables e below (T27.setTop (mkF m 53 #[.val (.ref t0), .val (.ref s0), .val (.ref s1), .val (.ref s0), .val (.int nq), .val (.int ((0 : Int32) + (1 : Int32))), .val (.double (0 : UInt64)), .second] [])) _
    rw [show ((0 : Int32) + (1 : Int32)) = (1 : Int32) by decide]
    show Steps p.tables e below (T27.setTop (mkF m 53 #[.val (.ref t0), .val (.ref s0), .val (.ref s1), .val (.ref s0), .val (.int nq), .val (.int (1 : Int32)), .val (.double (0 : UInt64)), .second] [])) _
    refine XS.goto X27.here hx rfl (pc0 := 53) (pc' := 31) rfl (hb hby d1_53) (by decide) (by decide) ?_
    refine XS.iload X27.here hx rfl (hb hby d1_31) rfl ?_
    refine XS.iload X27.here hx rfl (hb hby d1_33) rfl ?_
    refine XS.icmpNo X27.here hx rfl (hb hby d1_35) rfl (tlt hc35_1).2.1 ?_
    refine XS.aloadN X27.here hx rfl (hb hby d1_38) rfl rfl ?_
    show Steps p.tables e below (T27.setTop (mkF m 39 #[.val (.ref t0), .val (.ref s0), .val (.ref s1), .val (.ref s0), .val (.int nq), .val (.int (1 : Int32)), .val (.double (0 : UInt64)), .second] [(.ref s0)])) _
    refine XS.iload X27.here hx rfl (hb hby d1_39) rfl ?_
    refine X27.daload hx (j := (1 : Int32)) (v := (.double (0 : UInt64))) (by rw [e27]; exact Arq28.1) (State.isArrayOf_alike hZ2.alike Arq28.2.1) Arq28.2.2 (inb_of Sq28 hin41_1) (Has.at Hq28 (inb_of Sq28 hin41_1) rfl) (g := (mkF m 41 #[.val (.ref t0), .val (.ref s0), .val (.ref s1), .val (.ref s0), .val (.int nq), .val (.int (1 : Int32)), .val (.double (0 : UInt64)), .second] [(.int (1 : Int32)), (.ref s0)])) rfl rfl (hb hby d1_41) _ ?_
    show Steps p.tables e below (T27.setTop (mkF m 42 #[.val (.ref t0), .val (.ref s0), .val (.ref s1), .val (.ref s0), .val (.int nq), .val (.int (1 : Int32)), .val (.double (0 : UInt64)), .second] [(.double (0 : UInt64))])) _
    refine XS.dstore X27.here hx rfl (hb hby d1_42) rfl (l' := #[.val (.ref t0), .val (.ref s0), .val (.ref s1), .val (.ref s0), .val (.int nq), .val (.int (1 : Int32)), .val (.double (0 : UInt64)), .second]) rfl ?_
    refine XS.dload X27.here hx rfl (hb hby d1_44) rfl ?_
    refine st29 _ ?_
    show Steps p.tables e below (T29.setTop (mkF m 49 #[.val (.ref t0), .val (.ref s0), .val (.ref s1), .val (.ref s0), .val (.int nq), .val (.int (1 : Int32)), .val (.double (0 : UInt64)), .second] [(.double (0 : UInt64))])) _
    jvm_step X29.here [X29.here.top, hx, (hb hby d1_49), Value.category]
    show Steps p.tables e below (T29.setTop (mkF m 50 #[.val (.ref t0), .val (.ref s0), .val (.ref s1), .val (.ref s0), .val (.int nq), .val (.int (1 : Int32)), .val (.double (0 : UInt64)), .second] [])) _
    refine XS.iinc X29.here hx rfl (hb hby d1_50) rfl (l' := #[.val (.ref t0), .val (.ref s0), .val (.ref s1), .val (.ref s0), .val (.int nq), .val (.int ((1 : Int32) + (1 : Int32))), .val (.double (0 : UInt64)), .second]) rfl ?_
    show Steps p.tables e below (T29.setTop (mkF m 53 #[.val (.ref t0), .val (.ref s0), .val (.ref s1), .val (.ref s0), .val (.int nq), .val (.int ((1 : Int32) + (1 : Int32))), .val (.double (0 : UInt64)), .second] [])) _
    rw [show ((1 : Int32) + (1 : Int32)) = (2 : Int32) by decide]
    show Steps p.tables e below (T29.setTop (mkF m 53 #[.val (.ref t0), .val (.ref s0), .val (.ref s1), .val (.ref s0), .val (.int nq), .val (.int (2 : Int32)), .val (.double (0 : UInt64)), .second] [])) _
    refine XS.goto X29.here hx rfl (pc0 := 53) (pc' := 31) rfl (hb hby d1_53) (by decide) (by decide) ?_
    refine XS.iload X29.here hx rfl (hb hby d1_31) rfl ?_
    refine XS.iload X29.here hx rfl (hb hby d1_33) rfl ?_
    refine XS.icmpYes X29.here hx rfl (pc0 := 35) (pc' := 56) rfl (hb hby d1_35) rfl (flt hc35_2).2.1 (by decide) (by decide) ?_
    show Steps p.tables e below (T29.setTop (mkF m 56 #[.val (.ref t0), .val (.ref s0), .val (.ref s1), .val (.ref s0), .val (.int nq), .val (.int (2 : Int32)), .val (.double (0 : UInt64)), .second] [])) _
    refine XS.aloadN X29.here hx rfl (hb hby d1_56) rfl rfl ?_
    refine XS.ifnullNo X29.here hx rfl (hb hby d1_57) rfl ?_
    refine XS.aloadN X29.here hx rfl (hb hby d1_60) rfl rfl ?_
    refine XS.astoreN X29.here hx rfl (hb hby d1_61) rfl rfl (l' := #[.val (.ref t0), .val (.ref s0), .val (.ref s1), .val (.ref s1), .val (.int nq), .val (.int (2 : Int32)), .val (.double (0 : UInt64)), .second]) rfl ?_
    refine XS.aloadN X29.here hx rfl (hb hby d1_62) rfl rfl ?_
    refine X29.arraylength hx (by rw [e29]; exact Arq30.1) (State.isArrayOf_alike hZ2.alike Arq30.2.1) (g := (mkF m 63 #[.val (.ref t0), .val (.ref s0), .val (.ref s1), .val (.ref s1), .val (.int nq), .val (.int (2 : Int32)), .val (.double (0 : UInt64)), .second] [(.ref s1)])) rfl rfl (hb hby d1_63) _ ?_
    rw [len_of Sq30 Nq30]
    show Steps p.tables e below (T29.setTop (mkF m 64 #[.val (.ref t0), .val (.ref s0), .val (.ref s1), .val (.ref s1), .val (.int nq), .val (.int (2 : Int32)), .val (.double (0 : UInt64)), .second] [(.int mq)])) _
    refine XS.istore X29.here hx rfl (hb hby d1_64) rfl (l' := #[.val (.ref t0), .val (.ref s0), .val (.ref s1), .val (.ref s1), .val (.int mq), .val (.int (2 : Int32)), .val (.double (0 : UInt64)), .second]) rfl ?_
    refine XS.iconst X29.here hx rfl (hb hby d1_66) ?_
    refine XS.istore X29.here hx rfl (hb hby d1_67) rfl (l' := #[.val (.ref t0), .val (.ref s0), .val (.ref s1), .val (.ref s1), .val (.int mq), .val (.int (0 : Int32)), .val (.double (0 : UInt64)), .second]) rfl ?_
    refine XS.iload X29.here hx rfl (hb hby d1_69) rfl ?_
    refine XS.iload X29.here hx rfl (hb hby d1_71) rfl ?_
    refine XS.icmpNo X29.here hx rfl (hb hby d1_73) rfl (tlt hc73).2.1 ?_
    show Steps p.tables e below (T29.setTop (mkF m 76 #[.val (.ref t0), .val (.ref s0), .val (.ref s1), .val (.ref s1), .val (.int mq), .val (.int (0 : Int32)), .val (.double (0 : UInt64)), .second] [])) _
    refine XS.aloadN X29.here hx rfl (hb hby d1_76) rfl rfl ?_
    refine XS.iload X29.here hx rfl (hb hby d1_77) rfl ?_
    refine X29.daload hx (j := (0 : Int32)) (v := (.double (0 : UInt64))) (by rw [e29]; exact Arq31.1) (State.isArrayOf_alike hZ2.alike Arq31.2.1) Arq31.2.2 (inb_of Sq31 hin79) (Has.at Hq31 (inb_of Sq31 hin79) rfl) (g := (mkF m 79 #[.val (.ref t0), .val (.ref s0), .val (.ref s1), .val (.ref s1), .val (.int mq), .val (.int (0 : Int32)), .val (.double (0 : UInt64)), .second] [(.int (0 : Int32)), (.ref s1)])) rfl rfl (hb hby d1_79) _ ?_
    show Steps p.tables e below (T29.setTop (mkF m 80 #[.val (.ref t0), .val (.ref s0), .val (.ref s1), .val (.ref s1), .val (.int mq), .val (.int (0 : Int32)), .val (.double (0 : UInt64)), .second] [(.double (0 : UInt64))])) _
    refine XS.dstore X29.here hx rfl (hb hby d1_80) rfl (l' := #[.val (.ref t0), .val (.ref s0), .val (.ref s1), .val (.ref s1), .val (.int mq), .val (.int (0 : Int32)), .val (.double (0 : UInt64)), .second]) rfl ?_
    refine XS.dload X29.here hx rfl (hb hby d1_82) rfl ?_
    refine st32 _ ?_
    show Steps p.tables e below (T32.setTop (mkF m 87 #[.val (.ref t0), .val (.ref s0), .val (.ref s1), .val (.ref s1), .val (.int mq), .val (.int (0 : Int32)), .val (.double (0 : UInt64)), .second] [(.double (0 : UInt64))])) _
    jvm_step X32.here [X32.here.top, hx, (hb hby d1_87), Value.category]
    show Steps p.tables e below (T32.setTop (mkF m 88 #[.val (.ref t0), .val (.ref s0), .val (.ref s1), .val (.ref s1), .val (.int mq), .val (.int (0 : Int32)), .val (.double (0 : UInt64)), .second] [])) _
    refine XS.iinc X32.here hx rfl (hb hby d1_88) rfl (l' := #[.val (.ref t0), .val (.ref s0), .val (.ref s1), .val (.ref s1), .val (.int mq), .val (.int ((0 : Int32) + (1 : Int32))), .val (.double (0 : UInt64)), .second]) rfl ?_
    show Steps p.tables e below (T32.setTop (mkF m 91 #[.val (.ref t0), .val (.ref s0), .val (.ref s1), .val (.ref s1), .val (.int mq), .val (.int ((0 : Int32) + (1 : Int32))), .val (.double (0 : UInt64)), .second] [])) _
    rw [show ((0 : Int32) + (1 : Int32)) = (1 : Int32) by decide]
    show Steps p.tables e below (T32.setTop (mkF m 91 #[.val (.ref t0), .val (.ref s0), .val (.ref s1), .val (.ref s1), .val (.int mq), .val (.int (1 : Int32)), .val (.double (0 : UInt64)), .second] [])) _
    refine XS.goto X32.here hx rfl (pc0 := 91) (pc' := 69) rfl (hb hby d1_91) (by decide) (by decide) ?_
    refine XS.iload X32.here hx rfl (hb hby d1_69) rfl ?_
    refine XS.iload X32.here hx rfl (hb hby d1_71) rfl ?_
    show Steps p.tables e below (T32.setTop (mkF m 73 #[.val (.ref t0), .val (.ref s0), .val (.ref s1), .val (.ref s1), .val (.int mq), .val (.int (1 : Int32)), .val (.double (0 : UInt64)), .second] [(.int mq), (.int (1 : Int32))])) _
    refine XS.icmpNo X32.here hx rfl (hb hby d1_73) rfl (tlt hc73_1).2.1 ?_
    refine XS.aloadN X32.here hx rfl (hb hby d1_76) rfl rfl ?_
    refine XS.iload X32.here hx rfl (hb hby d1_77) rfl ?_
    refine X32.daload hx (j := (1 : Int32)) (v := (.double (0 : UInt64))) (by rw [e32]; exact Arq33.1) (State.isArrayOf_alike hZ2.alike Arq33.2.1) Arq33.2.2 (inb_of Sq33 hin79_1) (Has.at Hq33 (inb_of Sq33 hin79_1) rfl) (g := (mkF m 79 #[.val (.ref t0), .val (.ref s0), .val (.ref s1), .val (.ref s1), .val (.int mq), .val (.int (1 : Int32)), .val (.double (0 : UInt64)), .second] [(.int (1 : Int32)), (.ref s1)])) rfl rfl (hb hby d1_79) _ ?_
    show Steps p.tables e below (T32.setTop (mkF m 80 #[.val (.ref t0), .val (.ref s0), .val (.ref s1), .val (.ref s1), .val (.int mq), .val (.int (1 : Int32)), .val (.double (0 : UInt64)), .second] [(.double (0 : UInt64))])) _
    refine XS.dstore X32.here hx rfl (hb hby d1_80) rfl (l' := #[.val (.ref t0), .val (.ref s0), .val (.ref s1), .val (.ref s1), .val (.int mq), .val (.int (1 : Int32)), .val (.double (0 : UInt64)), .second]) rfl ?_
    refine XS.dload X32.here hx rfl (hb hby d1_82) rfl ?_
    show Steps p.tables e below (T32.setTop (mkF m 84 #[.val (.ref t0), .val (.ref s0), .val (.ref s1), .val (.ref s1), .val (.int mq), .val (.int (1 : Int32)), .val (.double (0 : UInt64)), .second] [(.double (0 : UInt64))])) _
    refine st34 _ ?_
    show Steps p.tables e below (T34.setTop (mkF m 87 #[.val (.ref t0), .val (.ref s0), .val (.ref s1), .val (.ref s1), .val (.int mq), .val (.int (1 : Int32)), .val (.double (0 : UInt64)), .second] [(.double (0 : UInt64))])) _
    jvm_step X34.here [X34.here.top, hx, (hb hby d1_87), Value.category]
    show Steps p.tables e below (T34.setTop (mkF m 88 #[.val (.ref t0), .val (.ref s0), .val (.ref s1), .val (.ref s1), .val (.int mq), .val (.int (1 : Int32)), .val (.double (0 : UInt64)), .second] [])) _
    refine XS.iinc X34.here hx rfl (hb hby d1_88) rfl (l' := #[.val (.ref t0), .val (.ref s0), .val (.ref s1), .val (.ref s1), .val (.int mq), .val (.int ((1 : Int32) + (1 : Int32))), .val (.double (0 : UInt64)), .second]) rfl ?_
    show Steps p.tables e below (T34.setTop (mkF m 91 #[.val (.ref t0), .val (.ref s0), .val (.ref s1), .val (.ref s1), .val (.int mq), .val (.int ((1 : Int32) + (1 : Int32))), .val (.double (0 : UInt64)), .second] [])) _
    rw [show ((1 : Int32) + (1 : Int32)) = (2 : Int32) by decide]
    show Steps p.tables e below (T34.setTop (mkF m 91 #[.val (.ref t0), .val (.ref s0), .val (.ref s1), .val (.ref s1), .val (.int mq), .val (.int (2 : Int32)), .val (.double (0 : UInt64)), .second] [])) _
    refine XS.goto X34.here hx rfl (pc0 := 91) (pc' := 69) rfl (hb hby d1_91) (by decide) (by decide) ?_
    refine XS.iload X34.here hx rfl (hb hby d1_69) rfl ?_
    show Steps p.tables e below (T34.setTop (mkF m 71 #[.val (.ref t0), .val (.ref s0), .val (.ref s1), .val (.ref s1), .val (.int mq), .val (.int (2 : Int32)), .val (.double (0 : UInt64)), .second] [(.int (2 : Int32))])) _
    refine XS.iload X34.here hx rfl (hb hby d1_71) rfl ?_
    refine XS.icmpYes X34.here hx rfl (pc0 := 73) (pc' := 94) rfl (hb hby d1_73) rfl (flt hc73_2).2.1 (by decide) (by decide) ?_
    exact X34.returnOut hx Bd.returns (hb hby d1_94) hr
  · show Q_ini22 Z t0 s0 s1 nq ka mq kb h0 n0 _ T34.heap _
    rw [e34]
    exact ⟨rfl, N34, K18, f19, f20, f24⟩
def Q_ini23 (Z : State) (t0 : Addr) (s0 : Addr) (s1 : Addr) (nq : Int32) (ka : ClassId) (mq : Int32) (kb : ClassId) (h0 : Heap) (n0 : Nat) (v : Option Value) (h : Heap) (L : List Loc) : Prop := v = none ∧ Fr n0 L ∧ Keep h0 h [t0] ∧ Exa Z h t0 "com/example/hedge/hedge/RewardStructure" ∧ Fld Z h t0 "com/example/hedge/hedge/RewardStructure" "state" "[D" (.ref s0) ∧ Fld Z h t0 "com/example/hedge/hedge/RewardStructure" "transition" "[D" (.ref s1)
set_option maxRecDepth 65536 in
set_option maxHeartbeats 40000000 in
theorem ini23 (l : Launch) (Z : State) (a0 : Array Value) (hw : ∀ d ∈ tables_1, d.before a0 Z = true) (ws : List Jvm.Cond) (t0 : Addr) (s0 : Addr) (s1 : Addr) (nq : Int32) (ka : ClassId) (mq : Int32) (kb : ClassId) (h0 : Heap) (n0 : Nat) (Z0 : n0 ≤ h0.size) (E_t0 : Exa Z h0 t0 "com/example/hedge/hedge/RewardStructure") (g_t0 : n0 ≤ t0) (F_state_t0 : Fld Z h0 t0 "com/example/hedge/hedge/RewardStructure" "state" "[D" .null) (F_transition_t0 : Fld Z h0 t0 "com/example/hedge/hedge/RewardStructure" "transition" "[D" .null) (E_s0 : Exa Z h0 s0 "[D") (V_s0 : Arv Z h0 s0 ka .double nq [] (.double (0 : UInt64))) (V_s1 : Arv Z h0 s1 kb .double mq [] (.double (0 : UInt64))) (ne_t0_s0 : t0 ≠ s0) (ne_t0_s1 : t0 ≠ s1) (hc35 : (0 : Int32) < nq) (hin41 : ¬ (0 : Int32) < 0 ∧ (0 : Int32) < nq) (hc35_1 : (1 : Int32) < nq) (hin41_1 : ¬ (1 : Int32) < 0 ∧ (1 : Int32) < nq) (hc35_2 : ¬ ((2 : Int32) < nq)) (hc73 : (0 : Int32) < mq) (hin79 : ¬ (0 : Int32) < 0 ∧ (0 : Int32) < mq) (hc73_1 : (1 : Int32) < mq) (hin79_1 : ¬ (1 : Int32) < 0 ∧ (1 : Int32) < mq) (hc73_2 : (2 : Int32) < mq) (hin79_2 : ¬ (2 : Int32) < 0 ∧ (2 : Int32) < mq) (hc73_3 : ¬ ((3 : Int32) < mq)) :
    MetFree l (⟨"com/example/hedge/hedge/RewardStructure", "<init>", "([D[D)V"⟩ : MethodName) (head1 (Jvm.Cond.code (⟨"com/example/hedge/hedge/RewardStructure", "<init>", "([D[D)V"⟩ : MethodName) prog_30_method_1_code 8 none :: ws) ({ frames := 1, cells := 2, slots := 24, locals := 14 } : Room)) (fun a U => a = #[(.ref t0), (.ref s0), (.ref s1)] ∧ Z.Warmed39 U.vm ∧ U.heap = h0) (fun _ _ _ _ _ => True) (fun _ U o U' => ∃ v L, o = .returned v ∧ Q_ini23 Z t0 s0 s1 nq ka mq kb h0 n0 v U'.heap L ∧ ReturnedEndW U o U' L ({ frames := 1, cells := 2, slots := 24, locals := 14 } : Room).cells ({ frames := 1, cells := 2, slots := 24, locals := 14 } : Room).slots) := by
  refine MetFree.of_bodySF (plainFor_of_name pn_com_example_hedge_hedge_RewardStructure) hisR ?_
  intro p e s m args below meth c s₁ Bd hml0 hP hK
  obtain ⟨rfl, hZ, hh⟩ := hP
  have hx := Bd.exec
  have hby := Bd.bytes
  have hml : c.maxLocals = 8 := hml0
  have hown : s.vm.findClass "com/example/hedge/hedge/RewardStructure" = some m.cls := findClass_of_methodNamed Bd.named
  have hnm := (name_of_methodNamed Bd.named Bd.method).1
  have X0 : Stand p l e ({ frames := 1, cells := 2, slots := 24, locals := 14 } : Room) s m #[(.ref t0), (.ref s0), (.ref s1)] below meth c s₁ [] 0 0 := Stand.of_body Bd
  have e0 : s₁.heap = h0 := by rw [← hh, Bd.state]; rfl
  have N0 := Fr.nil n0
  have pre0 : ∀ t, Steps p.tables e below (s₁.setTop (mkF m 0 #[.val (.ref t0), .val (.ref s0), .val (.ref s1), .unset, .unset, .unset, .unset, .unset] [])) t → Steps p.tables e below (s₁.setTop (entryFrame m #[(.ref t0), (.ref s0), (.ref s1)] 8)) t := fun t k => castTop (ef_1_RRR m t0 s0 s1) k
  obtain ⟨vm0, k00, X0, hS0, hk0, hZ0, hown0⟩ := own_W0 X0 e0 hZ hown
  obtain ⟨T1, X1, e1, st1⟩ := initO X0 hx hZ0 hown0 (hw _ (List.mem_of_getElem? (i := 7) rfl)) (hw _ (List.mem_of_getElem? (i := 8) rfl)) (hw _ (List.mem_of_getElem? (i := 9) rfl)) e0 (g := (mkF m 1 #[.val (.ref t0), .val (.ref s0), .val (.ref s1), .unset, .unset, .unset, .unset, .unset] [(.ref t0)])) rfl (by rw [hml]; rfl) rfl (hb hby d1_1) (by decide) (W := 0) (by show 2 * 0 + _ ≤ _; exact Nat.le_of_eq rfl) (by decide)
  obtain ⟨a2, T2, h2, kq2, X2, e2, E2, hS2, hkq2, hZ2, hown2, st2⟩ := ldcS X1 hx hZ0 hown0 (hw _ (List.mem_of_getElem? (i := 10) rfl)) (own_satoms hw) e1 hS0 hk0 (g := (mkF m 6 #[.val (.ref t0), .val (.ref s0), .val (.ref s1), .unset, .unset, .unset, .unset, .unset] [(.ref s0), (.ref t0)])) rfl (hb hby d1_6) (n := 20) (by decide) (by decide) (by decide) (by decide)
  have f3 := E_t0.ext E2
  have f4 := F_state_t0.ext E2
  have f5 := F_transition_t0.ext E2
  have f6 := E_s0.ext E2
  have f7 := V_s0.ext E2
  have f8 := V_s1.ext E2
  have K2 : Keep h0 h2 [t0] := (Keep.refl h0 [t0]).ext E2
  have Zs2 := Nat.le_trans Z0 E2.1
  have hk2 := Nat.le_trans hk0 E2.1
  obtain ⟨_, _, ⟨T9, L9, k9, n9⟩, -, X9, ⟨Lc9, hQ9, lq9, yq9, zq9⟩, st9⟩ := Jvm.LawKit.callS X2 hx (y := (⟨"java/util/Objects", "requireNonNull", "(Ljava/lang/Object;Ljava/lang/String;)Ljava/lang/Object;"⟩ : MethodName)) hown2 (mvT hZ2 (hw _ (List.mem_of_getElem? (i := 18) rfl))) (mvT hZ2 (hw _ (List.mem_of_getElem? (i := 19) rfl))) (mvT hZ2 (hw _ (List.mem_of_getElem? (i := 20) rfl))) (mvT hZ2 (hw _ (List.mem_of_getElem? (i := 21) rfl))) (by decide) (backOf (W := 1) (rn l Z a0 hw [] s0 a2 h2 n0 Zs2 ) hZ2 (hw _ (List.mem_of_getElem? (i := 21) rfl)) (hw _ (List.mem_of_getElem? (i := 20) rfl)) (by decide) (by decide)) (g := (mkF m 8 #[.val (.ref t0), .val (.ref s0), .val (.ref s1), .unset, .unset, .unset, .unset, .unset] [(.ref a2), (.ref s0), (.ref t0)])) rfl (by rw [hml]; rfl) (argsL := [(.ref s0), (.ref a2)]) (rest := [(.ref t0)]) (lenOf pd_0 rfl) rfl (by show 2 * 0 + _ ≤ _; exact Nat.le_of_eq rfl) (hb hby d1_8) (fun _ _ => ⟨rfl, e2, (by decide : 2 + 0 ≤ _), (by decide : 24 + 0 ≤ _)⟩)
  dsimp only [Pt.U, Pt.locs, Pt.cells, Pt.slots] at X9 lq9 yq9 zq9 st9 hQ9
  rw [lq9, yq9, zq9] at X9
  obtain ⟨rfl, N9q, eh9⟩ := hQ9
  have N9 := Fr.app N0 N9q
  have e9 : T9.heap = h2 := eh9
  obtain ⟨T10, X10, e10, st10⟩ := castY X9 hx hZ2 hown2 (hw _ (List.mem_of_getElem? (i := 22) rfl)) e9 (Ins.self f6) (g := (mkF m 11 #[.val (.ref t0), .val (.ref s0), .val (.ref s1), .unset, .unset, .unset, .unset, .unset] [(.ref s0), (.ref t0)])) rfl rfl (hb hby d1_11)
  obtain ⟨T11, h11, X11, e11, W11, st11⟩ := putF X10 hx hZ2 hown2 (host := "") (Or.inl (hw _ (List.mem_of_getElem? (i := 24) rfl))) Via.refl e10 f4 f3 (Or.inr ⟨(hw _ (List.mem_of_getElem? (i := 25) rfl)), rfl, hnm⟩) (hw _ (List.mem_of_getElem? (i := 2) rfl)) (ty := (.array .double)) (by decide) rfl rfl (g := (mkF m 14 #[.val (.ref t0), .val (.ref s0), .val (.ref s1), .unset, .unset, .unset, .unset, .unset] [(.ref s0), (.ref t0)])) rfl rfl (hb hby d1_14)
  have f12 := f3.wr W11
  have f13 := f5.other W11 (Or.inr (so_RewardStructure_transition_state hw))
  have f14 := f6.wr W11
  have f15 := f7.other W11 (Ne.symm ne_t0_s0)
  have f16 := f8.other W11 (Ne.symm ne_t0_s1)
  have K11 : Keep h0 h11 [t0] := K2.wr W11 (Or.inl (List.mem_of_getElem? (i := 0) rfl))
  have Zs11 := Nat.le_trans Zs2 (Keep.of_wr W11).1
  have hk11 := Nat.le_trans hkq2 (Keep.of_wr W11).1
  have N11 := Fr.snoc X11 N9 g_t0
  have f17 : Fld Z h11 t0 "com/example/hedge/hedge/RewardStructure" "state" "[D" (.ref s0) := f4.same W11
  obtain ⟨T18, h18, X18, e18, W18, st18⟩ := putF X11 hx hZ2 hown2 (host := "") (Or.inl (hw _ (List.mem_of_getElem? (i := 26) rfl))) Via.refl e11 f13 f12 (Or.inr ⟨(hw _ (List.mem_of_getElem? (i := 27) rfl)), rfl, hnm⟩) (hw _ (List.mem_of_getElem? (i := 2) rfl)) (ty := (.array .double)) (by decide) rfl rfl (g := (mkF m 19 #[.val (.ref t0), .val (.ref s0), .val (.ref s1), .unset, .unset, .unset, .unset, .unset] [(.ref s1), (.ref t0)])) rfl rfl (hb hby d1_19)
  have f19 := f12.wr W18
  have f20 := f17.other W18 (Or.inr (so_RewardStructure_state_transition hw))
  have f21 := f14.wr W18
  have f22 := f15.other W18 (Ne.symm ne_t0_s0)
  have f23 := f16.other W18 (Ne.symm ne_t0_s1)
  have K18 : Keep h0 h18 [t0] := K11.wr W18 (Or.inl (List.mem_of_getElem? (i := 0) rfl))
  have Zs18 := Nat.le_trans Zs11 (Keep.of_wr W18).1
  have hk18 := Nat.le_trans hk11 (Keep.of_wr W18).1
  have N18 := Fr.snoc X18 N11 g_t0
  have f24 : Fld Z h18 t0 "com/example/hedge/hedge/RewardStructure" "transition" "[D" (.ref s1) := f13.same W18
  obtain ⟨cq25, Arq25, -, Sq25, Nq25, -, -⟩ := id f22
  obtain ⟨cq26, Arq26, -, Sq26, -, Hq26, -⟩ := id f22
  obtain ⟨_, _, ⟨T27, L27, k27, n27⟩, -, X27, ⟨Lc27, hQ27, lq27, yq27, zq27⟩, st27⟩ := Jvm.LawKit.callS X18 hx (y := (⟨"com/example/hedge/hedge/RewardStructure", "checkReward", "(D)D"⟩ : MethodName)) hown2 (mvT hZ2 (hw _ (List.mem_of_getElem? (i := 33) rfl))) (mvT hZ2 (hw _ (List.mem_of_getElem? (i := 34) rfl))) (mvT hZ2 (hw _ (List.mem_of_getElem? (i := 3) rfl))) (mvT hZ2 (hw _ (List.mem_of_getElem? (i := 35) rfl))) (by decide) (backOf (W := 0) (cr l Z a0 hw []  h18 n0 Zs18 ) hZ2 (hw _ (List.mem_of_getElem? (i := 35) rfl)) (hw _ (List.mem_of_getElem? (i := 3) rfl)) (by decide) (by decide)) (g := (mkF m 46 #[.val (.ref t0), .val (.ref s0), .val (.ref s1), .val (.ref s0), .val (.int nq), .val (.int (0 : Int32)), .val (.double (0 : UInt64)), .second] [(.double (0 : UInt64))])) rfl (by rw [hml]; rfl) (argsL := [(.double (0 : UInt64))]) (rest := []) (lenOf pd_1 rfl) rfl (by show 2 * 0 + _ ≤ _; exact Nat.le_of_eq rfl) (hb hby d1_46) (fun _ _ => ⟨rfl, e18, (by decide : 2 + 0 ≤ _), (by decide : 24 + 0 ≤ _)⟩)
  dsimp only [Pt.U, Pt.locs, Pt.cells, Pt.slots] at X27 lq27 yq27 zq27 st27 hQ27
  rw [lq27, yq27, zq27] at X27
  obtain ⟨rfl, N27q, eh27⟩ := hQ27
  have N27 := Fr.app N18 N27q
  have e27 : T27.heap = h18 := eh27
  obtain ⟨cq28, Arq28, -, Sq28, -, Hq28, -⟩ := id f22
  obtain ⟨_, _, ⟨T29, L29, k29, n29⟩, -, X29, ⟨Lc29, hQ29, lq29, yq29, zq29⟩, st29⟩ := Jvm.LawKit.callS X27 hx (y := (⟨"com/example/hedge/hedge/RewardStructure", "checkReward", "(D)D"⟩ : MethodName)) hown2 (mvT hZ2 (hw _ (List.mem_of_getElem? (i := 33) rfl))) (mvT hZ2 (hw _ (List.mem_of_getElem? (i := 34) rfl))) (mvT hZ2 (hw _ (List.mem_of_getElem? (i := 3) rfl))) (mvT hZ2 (hw _ (List.mem_of_getElem? (i := 35) rfl))) (by decide) (backOf (W := 0) (cr l Z a0 hw []  h18 n0 Zs18 ) hZ2 (hw _ (List.mem_of_getElem? (i := 35) rfl)) (hw _ (List.mem_of_getElem? (i := 3) rfl)) (by decide) (by decide)) (g := (mkF m 46 #[.val (.ref t0), .val (.ref s0), .val (.ref s1), .val (.ref s0), .val (.int nq), .val (.int (1 : Int32)), .val (.double (0 : UInt64)), .second] [(.double (0 : UInt64))])) rfl (by rw [hml]; rfl) (argsL := [(.double (0 : UInt64))]) (rest := []) (lenOf pd_1 rfl) rfl (by show 2 * 0 + _ ≤ _; exact Nat.le_of_eq rfl) (hb hby d1_46) (fun _ _ => ⟨rfl, e27, (by decide : 2 + 0 ≤ _), (by decide : 24 + 0 ≤ _)⟩)
  dsimp only [Pt.U, Pt.locs, Pt.cells, Pt.slots] at X29 lq29 yq29 zq29 st29 hQ29
  rw [lq29, yq29, zq29] at X29
  obtain ⟨rfl, N29q, eh29⟩ := hQ29
  have N29 := Fr.app N27 N29q
  have e29 : T29.heap = h18 := eh29
  obtain ⟨cq30, Arq30, -, Sq30, Nq30, -, -⟩ := id f23
  obtain ⟨cq31, Arq31, -, Sq31, -, Hq31, -⟩ := id f23
  obtain ⟨_, _, ⟨T32, L32, k32, n32⟩, -, X32, ⟨Lc32, hQ32, lq32, yq32, zq32⟩, st32⟩ := Jvm.LawKit.callS X29 hx (y := (⟨"com/example/hedge/hedge/RewardStructure", "checkReward", "(D)D"⟩ : MethodName)) hown2 (mvT hZ2 (hw _ (List.mem_of_getElem? (i := 33) rfl))) (mvT hZ2 (hw _ (List.mem_of_getElem? (i := 34) rfl))) (mvT hZ2 (hw _ (List.mem_of_getElem? (i := 3) rfl))) (mvT hZ2 (hw _ (List.mem_of_getElem? (i := 35) rfl))) (by decide) (backOf (W := 0) (cr l Z a0 hw []  h18 n0 Zs18 ) hZ2 (hw _ (List.mem_of_getElem? (i := 35) rfl)) (hw _ (List.mem_of_getElem? (i := 3) rfl)) (by decide) (by decide)) (g := (mkF m 84 #[.val (.ref t0), .val (.ref s0), .val (.ref s1), .val (.ref s1), .val (.int mq), .val (.int (0 : Int32)), .val (.double (0 : UInt64)), .second] [(.double (0 : UInt64))])) rfl (by rw [hml]; rfl) (argsL := [(.double (0 : UInt64))]) (rest := []) (lenOf pd_1 rfl) rfl (by show 2 * 0 + _ ≤ _; exact Nat.le_of_eq rfl) (hb hby d1_84) (fun _ _ => ⟨rfl, e29, (by decide : 2 + 0 ≤ _), (by decide : 24 + 0 ≤ _)⟩)
  dsimp only [Pt.U, Pt.locs, Pt.cells, Pt.slots] at X32 lq32 yq32 zq32 st32 hQ32
  rw [lq32, yq32, zq32] at X32
  obtain ⟨rfl, N32q, eh32⟩ := hQ32
  have N32 := Fr.app N29 N32q
  have e32 : T32.heap = h18 := eh32
  obtain ⟨cq33, Arq33, -, Sq33, -, Hq33, -⟩ := id f23
  obtain ⟨_, _, ⟨T34, L34, k34, n34⟩, -, X34, ⟨Lc34, hQ34, lq34, yq34, zq34⟩, st34⟩ := Jvm.LawKit.callS X32 hx (y := (⟨"com/example/hedge/hedge/RewardStructure", "checkReward", "(D)D"⟩ : MethodName)) hown2 (mvT hZ2 (hw _ (List.mem_of_getElem? (i := 33) rfl))) (mvT hZ2 (hw _ (List.mem_of_getElem? (i := 34) rfl))) (mvT hZ2 (hw _ (List.mem_of_getElem? (i := 3) rfl))) (mvT hZ2 (hw _ (List.mem_of_getElem? (i := 35) rfl))) (by decide) (backOf (W := 0) (cr l Z a0 hw []  h18 n0 Zs18 ) hZ2 (hw _ (List.mem_of_getElem? (i := 35) rfl)) (hw _ (List.mem_of_getElem? (i := 3) rfl)) (by decide) (by decide)) (g := (mkF m 84 #[.val (.ref t0), .val (.ref s0), .val (.ref s1), .val (.ref s1), .val (.int mq), .val (.int (1 : Int32)), .val (.double (0 : UInt64)), .second] [(.double (0 : UInt64))])) rfl (by rw [hml]; rfl) (argsL := [(.double (0 : UInt64))]) (rest := []) (lenOf pd_1 rfl) rfl (by show 2 * 0 + _ ≤ _; exact Nat.le_of_eq rfl) (hb hby d1_84) (fun _ _ => ⟨rfl, e32, (by decide : 2 + 0 ≤ _), (by decide : 24 + 0 ≤ _)⟩)
  dsimp only [Pt.U, Pt.locs, Pt.cells, Pt.slots] at X34 lq34 yq34 zq34 st34 hQ34
  rw [lq34, yq34, zq34] at X34
  obtain ⟨rfl, N34q, eh34⟩ := hQ34
  have N34 := Fr.app N32 N34q
  have e34 : T34.heap = h18 := eh34
  obtain ⟨cq35, Arq35, -, Sq35, -, Hq35, -⟩ := id f23
  obtain ⟨_, _, ⟨T36, L36, k36, n36⟩, -, X36, ⟨Lc36, hQ36, lq36, yq36, zq36⟩, st36⟩ := Jvm.LawKit.callS X34 hx (y := (⟨"com/example/hedge/hedge/RewardStructure", "checkReward", "(D)D"⟩ : MethodName)) hown2 (mvT hZ2 (hw _ (List.mem_of_getElem? (i := 33) rfl))) (mvT hZ2 (hw _ (List.mem_of_getElem? (i := 34) rfl))) (mvT hZ2 (hw _ (List.mem_of_getElem? (i := 3) rfl))) (mvT hZ2 (hw _ (List.mem_of_getElem? (i := 35) rfl))) (by decide) (backOf (W := 0) (cr l Z a0 hw []  h18 n0 Zs18 ) hZ2 (hw _ (List.mem_of_getElem? (i := 35) rfl)) (hw _ (List.mem_of_getElem? (i := 3) rfl)) (by decide) (by decide)) (g := (mkF m 84 #[.val (.ref t0), .val (.ref s0), .val (.ref s1), .val (.ref s1), .val (.int mq), .val (.int (2 : Int32)), .val (.double (0 : UInt64)), .second] [(.double (0 : UInt64))])) rfl (by rw [hml]; rfl) (argsL := [(.double (0 : UInt64))]) (rest := []) (lenOf pd_1 rfl) rfl (by show 2 * 0 + _ ≤ _; exact Nat.le_of_eq rfl) (hb hby d1_84) (fun _ _ => ⟨rfl, e34, (by decide : 2 + 0 ≤ _), (by decide : 24 + 0 ≤ _)⟩)
  dsimp only [Pt.U, Pt.locs, Pt.cells, Pt.slots] at X36 lq36 yq36 zq36 st36 hQ36
  rw [lq36, yq36, zq36] at X36
  obtain ⟨rfl, N36q, eh36⟩ := hQ36
  have N36 := Fr.app N34 N36q
  have e36 : T36.heap = h18 := eh36
  obtain ⟨fs, hr, hrun, hended, hRW⟩ := X36.leaveW hS2 (by rw [e36]; exact hk18) (v := none) (fun _ => rfl)
  refine ⟨_, _, pre0 _ ?_, hrun, hended, _, _, rfl, ?_, ⟨_, rfl⟩, hRW.2.1, hRW.2.2.1, hRW.2.2.2.mono (by decide) (by decide)⟩
  · show Steps p.tables e below (s₁.setTop (mkF m 0 #[.val (.ref t0), .val (.ref s0), .val (.ref s1), .unset, .unset, .unset, .unset, .unset] [])) _
    refine XS.aloadN X0.here hx rfl (hb hby d1_0) rfl rfl ?_
    refine st1 _ ?_
    show Steps p.tables e below (T1.setTop (mkF m 4 #[.val (.ref t0), .val (.ref s0), .val (.ref s1), .unset, .unset, .unset, .unset, .unset] [])) _
    refine XS.aloadN X1.here hx rfl (hb hby d1_4) rfl rfl ?_
    refine XS.aloadN X1.here hx rfl (hb hby d1_5) rfl rfl ?_
    refine st2 _ ?_
    show Steps p.tables e below (T2.setTop (mkF m 8 #[.val (.ref t0), .val (.ref s0), .val (.ref s1), .unset, .unset, .unset, .unset, .unset] [(.ref a2), (.ref s0), (.ref t0)])) _
    refine st9 _ ?_
    show Steps p.tables e below (T9.setTop (mkF m 11 #[.val (.ref t0), .val (.ref s0), .val (.ref s1), .unset, .unset, .unset, .unset, .unset] [(.ref s0), (.ref t0)])) _
    refine st10 _ ?_
    show Steps p.tables e below (T10.setTop (mkF m 14 #[.val (.ref t0), .val (.ref s0), .val (.ref s1), .unset, .unset, .unset, .unset, .unset] [(.ref s0), (.ref t0)])) _
    refine st11 _ ?_
    show Steps p.tables e below (T11.setTop (mkF m 17 #[.val (.ref t0), .val (.ref s0), .val (.ref s1), .unset, .unset, .unset, .unset, .unset] [])) _
    refine XS.aloadN X11.here hx rfl (hb hby d1_17) rfl rfl ?_
    refine XS.aloadN X11.here hx rfl (hb hby d1_18) rfl rfl ?_
    refine st18 _ ?_
    show Steps p.tables e below (T18.setTop (mkF m 22 #[.val (.ref t0), .val (.ref s0), .val (.ref s1), .unset, .unset, .unset, .unset, .unset] [])) _
    refine XS.aloadN X18.here hx rfl (hb hby d1_22) rfl rfl ?_
    refine XS.astoreN X18.here hx rfl (hb hby d1_23) rfl rfl (l' := #[.val (.ref t0), .val (.ref s0), .val (.ref s1), .val (.ref s0), .unset, .unset, .unset, .unset]) rfl ?_
    refine XS.aloadN X18.here hx rfl (hb hby d1_24) rfl rfl ?_
    refine X18.arraylength hx (by rw [e18]; exact Arq25.1) (State.isArrayOf_alike hZ2.alike Arq25.2.1) (g := (mkF m 25 #[.val (.ref t0), .val (.ref s0), .val (.ref s1), .val (.ref s0), .unset, .unset, .unset, .unset] [(.ref s0)])) rfl rfl (hb hby d1_25) _ ?_
    rw [len_of Sq25 Nq25]
    show Steps p.tables e below (T18.setTop (mkF m 26 #[.val (.ref t0), .val (.ref s0), .val (.ref s1), .val (.ref s0), .unset, .unset, .unset, .unset] [(.int nq)])) _
    refine XS.istore X18.here hx rfl (hb hby d1_26) rfl (l' := #[.val (.ref t0), .val (.ref s0), .val (.ref s1), .val (.ref s0), .val (.int nq), .unset, .unset, .unset]) rfl ?_
    refine XS.iconst X18.here hx rfl (hb hby d1_28) ?_
    show Steps p.tables e below (T18.setTop (mkF m 29 #[.val (.ref t0), .val (.ref s0), .val (.ref s1), .val (.ref s0), .val (.int nq), .unset, .unset, .unset] [(.int (0 : Int32))])) _
    refine XS.istore X18.here hx rfl (hb hby d1_29) rfl (l' := #[.val (.ref t0), .val (.ref s0), .val (.ref s1), .val (.ref s0), .val (.int nq), .val (.int (0 : Int32)), .unset, .unset]) rfl ?_
    refine XS.iload X18.here hx rfl (hb hby d1_31) rfl ?_
    refine XS.iload X18.here hx rfl (hb hby d1_33) rfl ?_
    refine XS.icmpNo X18.here hx rfl (hb hby d1_35) rfl (tlt hc35).2.1 ?_
    refine XS.aloadN X18.here hx rfl (hb hby d1_38) rfl rfl ?_
    refine XS.iload X18.here hx rfl (hb hby d1_39) rfl ?_
    show Steps p.tables e below (T18.setTop (mkF m 41 #[.val (.ref t0), .val (.ref s0), .val (.ref s1), .val (.ref s0), .val (.int nq), .val (.int (0 : Int32)), .unset, .unset] [(.int (0 : Int32)), (.ref s0)])) _
    refine X18.daload hx (j := (0 : Int32)) (v := (.double (0 : UInt64))) (by rw [e18]; exact Arq26.1) (State.isArrayOf_alike hZ2.alike Arq26.2.1) Arq26.2.2 (inb_of Sq26 hin41) (Has.at Hq26 (inb_of Sq26 hin41) rfl) (g := (mkF m 41 #[.val (.ref t0), .val (.ref s0), .val (.ref s1), .val (.ref s0), .val (.int nq), .val (.int (0 : Int32)), .unset, .unset] [(.int (0 : Int32)), (.ref s0)])) rfl rfl (hb hby d1_41) _ ?_
    show Steps p.tables e below (T18.setTop (mkF m 42 #[.val (.ref t0), .val (.ref s0), .val (.ref s1), .val (.ref s0), .val (.int nq), .val (.int (0 : Int32)), .unset, .unset] [(.double (0 : UInt64))])) _
    refine XS.dstore X18.here hx rfl (hb hby d1_42) rfl (l' := #[.val (.ref t0), .val (.ref s0), .val (.ref s1), .val (.ref s0), .val (.int nq), .val (.int (0 : Int32)), .val (.double (0 : UInt64)), .second]) rfl ?_
    refine XS.dload X18.here hx rfl (hb hby d1_44) rfl ?_
    refine st27 _ ?_
    show Steps p.tables e below (T27.setTop (mkF m 49 #[.val (.ref t0), .val (.ref s0), .val (.ref s1), .val (.ref s0), .val (.int nq), .val (.int (0 : Int32)), .val (.double (0 : UInt64)), .second] [(.double (0 : UInt64))])) _
    jvm_step X27.here [X27.here.top, hx, (hb hby d1_49), Value.category]
    show Steps p.tables e below (T27.setTop (mkF m 50 #[.val (.ref t0), .val (.ref s0), .val (.ref s1), .val (.ref s0), .val (.int nq), .val (.int (0 : Int32)), .val (.double (0 : UInt64)), .second] [])) _
    refine XS.iinc X27.here hx rfl (hb hby d1_50) rfl (l' := #[.val (.ref t0), .val (.ref s0), .val (.ref s1), .val (.ref s0), .val (.int nq), .val (.int ((0 : Int32) + (1 : Int32))), .val (.double (0 : UInt64)), .second]) rfl ?_
    show Steps p.tables e below (T27.setTop (mkF m 53 #[.val (.ref t0), .val (.ref s0), .val (.ref s1), .val (.ref s0), .val (.int nq), .val (.int ((0 : Int32) + (1 : Int32))), .val (.double (0 : UInt64)), .second] [])) _
    rw [show ((0 : Int32) + (1 : Int32)) = (1 : Int32) by decide]
    show Steps p.tables e below (T27.setTop (mkF m 53 #[.val (.ref t0), .val (.ref s0), .val (.ref s1), .val (.ref s0), .val (.int nq), .val (.int (1 : Int32)), .val (.double (0 : UInt64)), .second] [])) _
    refine XS.goto X27.here hx rfl (pc0 := 53) (pc' := 31) rfl (hb hby d1_53) (by decide) (by decide) ?_
    refine XS.iload X27.here hx rfl (hb hby d1_31) rfl ?_
    refine XS.iload X27.here hx rfl (hb hby d1_33) rfl ?_
    refine XS.icmpNo X27.here hx rfl (hb hby d1_35) rfl (tlt hc35_1).2.1 ?_
    refine XS.aloadN X27.here hx rfl (hb hby d1_38) rfl rfl ?_
    show Steps p.tables e below (T27.setTop (mkF m 39 #[.val (.ref t0), .val (.ref s0), .val (.ref s1), .val (.ref s0), .val (.int nq), .val (.int (1 : Int32)), .val (.double (0 : UInt64)), .second] [(.ref s0)])) _
    refine XS.iload X27.here hx rfl (hb hby d1_39) rfl ?_
    refine X27.daload hx (j := (1 : Int32)) (v := (.double (0 : UInt64))) (by rw [e27]; exact Arq28.1) (State.isArrayOf_alike hZ2.alike Arq28.2.1) Arq28.2.2 (inb_of Sq28 hin41_1) (Has.at Hq28 (inb_of Sq28 hin41_1) rfl) (g := (mkF m 41 #[.val (.ref t0), .val (.ref s0), .val (.ref s1), .val (.ref s0), .val (.int nq), .val (.int (1 : Int32)), .val (.double (0 : UInt64)), .second] [(.int (1 : Int32)), (.ref s0)])) rfl rfl (hb hby d1_41) _ ?_
    show Steps p.tables e below (T27.setTop (mkF m 42 #[.val (.ref t0), .val (.ref s0), .val (.ref s1), .val (.ref s0), .val (.int nq), .val (.int (1 : Int32)), .val (.double (0 : UInt64)), .second] [(.double (0 : UInt64))])) _
    refine XS.dstore X27.here hx rfl (hb hby d1_42) rfl (l' := #[.val (.ref t0), .val (.ref s0), .val (.ref s1), .val (.ref s0), .val (.int nq), .val (.int (1 : Int32)), .val (.double (0 : UInt64)), .second]) rfl ?_
    refine XS.dload X27.here hx rfl (hb hby d1_44) rfl ?_
    refine st29 _ ?_
    show Steps p.tables e below (T29.setTop (mkF m 49 #[.val (.ref t0), .val (.ref s0), .val (.ref s1), .val (.ref s0), .val (.int nq), .val (.int (1 : Int32)), .val (.double (0 : UInt64)), .second] [(.double (0 : UInt64))])) _
    jvm_step X29.here [X29.here.top, hx, (hb hby d1_49), Value.category]
    show Steps p.tables e below (T29.setTop (mkF m 50 #[.val (.ref t0), .val (.ref s0), .val (.ref s1), .val (.ref s0), .val (.int nq), .val (.int (1 : Int32)), .val (.double (0 : UInt64)), .second] [])) _
    refine XS.iinc X29.here hx rfl (hb hby d1_50) rfl (l' := #[.val (.ref t0), .val (.ref s0), .val (.ref s1), .val (.ref s0), .val (.int nq), .val (.int ((1 : Int32) + (1 : Int32))), .val (.double (0 : UInt64)), .second]) rfl ?_
    show Steps p.tables e below (T29.setTop (mkF m 53 #[.val (.ref t0), .val (.ref s0), .val (.ref s1), .val (.ref s0), .val (.int nq), .val (.int ((1 : Int32) + (1 : Int32))), .val (.double (0 : UInt64)), .second] [])) _
    rw [show ((1 : Int32) + (1 : Int32)) = (2 : Int32) by decide]
    show Steps p.tables e below (T29.setTop (mkF m 53 #[.val (.ref t0), .val (.ref s0), .val (.ref s1), .val (.ref s0), .val (.int nq), .val (.int (2 : Int32)), .val (.double (0 : UInt64)), .second] [])) _
    refine XS.goto X29.here hx rfl (pc0 := 53) (pc' := 31) rfl (hb hby d1_53) (by decide) (by decide) ?_
    refine XS.iload X29.here hx rfl (hb hby d1_31) rfl ?_
    refine XS.iload X29.here hx rfl (hb hby d1_33) rfl ?_
    refine XS.icmpYes X29.here hx rfl (pc0 := 35) (pc' := 56) rfl (hb hby d1_35) rfl (flt hc35_2).2.1 (by decide) (by decide) ?_
    show Steps p.tables e below (T29.setTop (mkF m 56 #[.val (.ref t0), .val (.ref s0), .val (.ref s1), .val (.ref s0), .val (.int nq), .val (.int (2 : Int32)), .val (.double (0 : UInt64)), .second] [])) _
    refine XS.aloadN X29.here hx rfl (hb hby d1_56) rfl rfl ?_
    refine XS.ifnullNo X29.here hx rfl (hb hby d1_57) rfl ?_
    refine XS.aloadN X29.here hx rfl (hb hby d1_60) rfl rfl ?_
    refine XS.astoreN X29.here hx rfl (hb hby d1_61) rfl rfl (l' := #[.val (.ref t0), .val (.ref s0), .val (.ref s1), .val (.ref s1), .val (.int nq), .val (.int (2 : Int32)), .val (.double (0 : UInt64)), .second]) rfl ?_
    refine XS.aloadN X29.here hx rfl (hb hby d1_62) rfl rfl ?_
    refine X29.arraylength hx (by rw [e29]; exact Arq30.1) (State.isArrayOf_alike hZ2.alike Arq30.2.1) (g := (mkF m 63 #[.val (.ref t0), .val (.ref s0), .val (.ref s1), .val (.ref s1), .val (.int nq), .val (.int (2 : Int32)), .val (.double (0 : UInt64)), .second] [(.ref s1)])) rfl rfl (hb hby d1_63) _ ?_
    rw [len_of Sq30 Nq30]
    show Steps p.tables e below (T29.setTop (mkF m 64 #[.val (.ref t0), .val (.ref s0), .val (.ref s1), .val (.ref s1), .val (.int nq), .val (.int (2 : Int32)), .val (.double (0 : UInt64)), .second] [(.int mq)])) _
    refine XS.istore X29.here hx rfl (hb hby d1_64) rfl (l' := #[.val (.ref t0), .val (.ref s0), .val (.ref s1), .val (.ref s1), .val (.int mq), .val (.int (2 : Int32)), .val (.double (0 : UInt64)), .second]) rfl ?_
    refine XS.iconst X29.here hx rfl (hb hby d1_66) ?_
    refine XS.istore X29.here hx rfl (hb hby d1_67) rfl (l' := #[.val (.ref t0), .val (.ref s0), .val (.ref s1), .val (.ref s1), .val (.int mq), .val (.int (0 : Int32)), .val (.double (0 : UInt64)), .second]) rfl ?_
    refine XS.iload X29.here hx rfl (hb hby d1_69) rfl ?_
    refine XS.iload X29.here hx rfl (hb hby d1_71) rfl ?_
    refine XS.icmpNo X29.here hx rfl (hb hby d1_73) rfl (tlt hc73).2.1 ?_
    show Steps p.tables e below (T29.setTop (mkF m 76 #[.val (.ref t0), .val (.ref s0), .val (.ref s1), .val (.ref s1), .val (.int mq), .val (.int (0 : Int32)), .val (.double (0 : UInt64)), .second] [])) _
    refine XS.aloadN X29.here hx rfl (hb hby d1_76) rfl rfl ?_
    refine XS.iload X29.here hx rfl (hb hby d1_77) rfl ?_
    refine X29.daload hx (j := (0 : Int32)) (v := (.double (0 : UInt64))) (by rw [e29]; exact Arq31.1) (State.isArrayOf_alike hZ2.alike Arq31.2.1) Arq31.2.2 (inb_of Sq31 hin79) (Has.at Hq31 (inb_of Sq31 hin79) rfl) (g := (mkF m 79 #[.val (.ref t0), .val (.ref s0), .val (.ref s1), .val (.ref s1), .val (.int mq), .val (.int (0 : Int32)), .val (.double (0 : UInt64)), .second] [(.int (0 : Int32)), (.ref s1)])) rfl rfl (hb hby d1_79) _ ?_
    show Steps p.tables e below (T29.setTop (mkF m 80 #[.val (.ref t0), .val (.ref s0), .val (.ref s1), .val (.ref s1), .val (.int mq), .val (.int (0 : Int32)), .val (.double (0 : UInt64)), .second] [(.double (0 : UInt64))])) _
    refine XS.dstore X29.here hx rfl (hb hby d1_80) rfl (l' := #[.val (.ref t0), .val (.ref s0), .val (.ref s1), .val (.ref s1), .val (.int mq), .val (.int (0 : Int32)), .val (.double (0 : UInt64)), .second]) rfl ?_
    refine XS.dload X29.here hx rfl (hb hby d1_82) rfl ?_
    refine st32 _ ?_
    show Steps p.tables e below (T32.setTop (mkF m 87 #[.val (.ref t0), .val (.ref s0), .val (.ref s1), .val (.ref s1), .val (.int mq), .val (.int (0 : Int32)), .val (.double (0 : UInt64)), .second] [(.double (0 : UInt64))])) _
    jvm_step X32.here [X32.here.top, hx, (hb hby d1_87), Value.category]
    show Steps p.tables e below (T32.setTop (mkF m 88 #[.val (.ref t0), .val (.ref s0), .val (.ref s1), .val (.ref s1), .val (.int mq), .val (.int (0 : Int32)), .val (.double (0 : UInt64)), .second] [])) _
    refine XS.iinc X32.here hx rfl (hb hby d1_88) rfl (l' := #[.val (.ref t0), .val (.ref s0), .val (.ref s1), .val (.ref s1), .val (.int mq), .val (.int ((0 : Int32) + (1 : Int32))), .val (.double (0 : UInt64)), .second]) rfl ?_
    show Steps p.tables e below (T32.setTop (mkF m 91 #[.val (.ref t0), .val (.ref s0), .val (.ref s1), .val (.ref s1), .val (.int mq), .val (.int ((0 : Int32) + (1 : Int32))), .val (.double (0 : UInt64)), .second] [])) _
    rw [show ((0 : Int32) + (1 : Int32)) = (1 : Int32) by decide]
    show Steps p.tables e below (T32.setTop (mkF m 91 #[.val (.ref t0), .val (.ref s0), .val (.ref s1), .val (.ref s1), .val (.int mq), .val (.int (1 : Int32)), .val (.double (0 : UInt64)), .second] [])) _
    refine XS.goto X32.here hx rfl (pc0 := 91) (pc' := 69) rfl (hb hby d1_91) (by decide) (by decide) ?_
    refine XS.iload X32.here hx rfl (hb hby d1_69) rfl ?_
    refine XS.iload X32.here hx rfl (hb hby d1_71) rfl ?_
    show Steps p.tables e below (T32.setTop (mkF m 73 #[.val (.ref t0), .val (.ref s0), .val (.ref s1), .val (.ref s1), .val (.int mq), .val (.int (1 : Int32)), .val (.double (0 : UInt64)), .second] [(.int mq), (.int (1 : Int32))])) _
    refine XS.icmpNo X32.here hx rfl (hb hby d1_73) rfl (tlt hc73_1).2.1 ?_
    refine XS.aloadN X32.here hx rfl (hb hby d1_76) rfl rfl ?_
    refine XS.iload X32.here hx rfl (hb hby d1_77) rfl ?_
    refine X32.daload hx (j := (1 : Int32)) (v := (.double (0 : UInt64))) (by rw [e32]; exact Arq33.1) (State.isArrayOf_alike hZ2.alike Arq33.2.1) Arq33.2.2 (inb_of Sq33 hin79_1) (Has.at Hq33 (inb_of Sq33 hin79_1) rfl) (g := (mkF m 79 #[.val (.ref t0), .val (.ref s0), .val (.ref s1), .val (.ref s1), .val (.int mq), .val (.int (1 : Int32)), .val (.double (0 : UInt64)), .second] [(.int (1 : Int32)), (.ref s1)])) rfl rfl (hb hby d1_79) _ ?_
    show Steps p.tables e below (T32.setTop (mkF m 80 #[.val (.ref t0), .val (.ref s0), .val (.ref s1), .val (.ref s1), .val (.int mq), .val (.int (1 : Int32)), .val (.double (0 : UInt64)), .second] [(.double (0 : UInt64))])) _
    refine XS.dstore X32.here hx rfl (hb hby d1_80) rfl (l' := #[.val (.ref t0), .val (.ref s0), .val (.ref s1), .val (.ref s1), .val (.int mq), .val (.int (1 : Int32)), .val (.double (0 : UInt64)), .second]) rfl ?_
    refine XS.dload X32.here hx rfl (hb hby d1_82) rfl ?_
    show Steps p.tables e below (T32.setTop (mkF m 84 #[.val (.ref t0), .val (.ref s0), .val (.ref s1), .val (.ref s1), .val (.int mq), .val (.int (1 : Int32)), .val (.double (0 : UInt64)), .second] [(.double (0 : UInt64))])) _
    refine st34 _ ?_
    show Steps p.tables e below (T34.setTop (mkF m 87 #[.val (.ref t0), .val (.ref s0), .val (.ref s1), .val (.ref s1), .val (.int mq), .val (.int (1 : Int32)), .val (.double (0 : UInt64)), .second] [(.double (0 : UInt64))])) _
    jvm_step X34.here [X34.here.top, hx, (hb hby d1_87), Value.category]
    show Steps p.tables e below (T34.setTop (mkF m 88 #[.val (.ref t0), .val (.ref s0), .val (.ref s1), .val (.ref s1), .val (.int mq), .val (.int (1 : Int32)), .val (.double (0 : UInt64)), .second] [])) _
    refine XS.iinc X34.here hx rfl (hb hby d1_88) rfl (l' := #[.val (.ref t0), .val (.ref s0), .val (.ref s1), .val (.ref s1), .val (.int mq), .val (.int ((1 : Int32) + (1 : Int32))), .val (.double (0 : UInt64)), .second]) rfl ?_
    show Steps p.tables e below (T34.setTop (mkF m 91 #[.val (.ref t0), .val (.ref s0), .val (.ref s1), .val (.ref s1), .val (.int mq), .val (.int ((1 : Int32) + (1 : Int32))), .val (.double (0 : UInt64)), .second] [])) _
    rw [show ((1 : Int32) + (1 : Int32)) = (2 : Int32) by decide]
    show Steps p.tables e below (T34.setTop (mkF m 91 #[.val (.ref t0), .val (.ref s0), .val (.ref s1), .val (.ref s1), .val (.int mq), .val (.int (2 : Int32)), .val (.double (0 : UInt64)), .second] [])) _
    refine XS.goto X34.here hx rfl (pc0 := 91) (pc' := 69) rfl (hb hby d1_91) (by decide) (by decide) ?_
    refine XS.iload X34.here hx rfl (hb hby d1_69) rfl ?_
    show Steps p.tables e below (T34.setTop (mkF m 71 #[.val (.ref t0), .val (.ref s0), .val (.ref s1), .val (.ref s1), .val (.int mq), .val (.int (2 : Int32)), .val (.double (0 : UInt64)), .second] [(.int (2 : Int32))])) _
    refine XS.iload X34.here hx rfl (hb hby d1_71) rfl ?_
    refine XS.icmpNo X34.here hx rfl (hb hby d1_73) rfl (tlt hc73_2).2.1 ?_
    refine XS.aloadN X34.here hx rfl (hb hby d1_76) rfl rfl ?_
    refine XS.iload X34.here hx rfl (hb hby d1_77) rfl ?_
    refine X34.daload hx (j := (2 : Int32)) (v := (.double (0 : UInt64))) (by rw [e34]; exact Arq35.1) (State.isArrayOf_alike hZ2.alike Arq35.2.1) Arq35.2.2 (inb_of Sq35 hin79_2) (Has.at Hq35 (inb_of Sq35 hin79_2) rfl) (g := (mkF m 79 #[.val (.ref t0), .val (.ref s0), .val (.ref s1), .val (.ref s1), .val (.int mq), .val (.int (2 : Int32)), .val (.double (0 : UInt64)), .second] [(.int (2 : Int32)), (.ref s1)])) rfl rfl (hb hby d1_79) _ ?_
    show Steps p.tables e below (T34.setTop (mkF m 80 #[.val (.ref t0), .val (.ref s0), .val (.ref s1), .val (.ref s1), .val (.int mq), .val (.int (2 : Int32)), .val (.double (0 : UInt64)), .second] [(.double (0 : UInt64))])) _
    refine XS.dstore X34.here hx rfl (hb hby d1_80) rfl (l' := #[.val (.ref t0), .val (.ref s0), .val (.ref s1), .val (.ref s1), .val (.int mq), .val (.int (2 : Int32)), .val (.double (0 : UInt64)), .second]) rfl ?_
    show Steps p.tables e below (T34.setTop (mkF m 82 #[.val (.ref t0), .val (.ref s0), .val (.ref s1), .val (.ref s1), .val (.int mq), .val (.int (2 : Int32)), .val (.double (0 : UInt64)), .second] [])) _
    refine XS.dload X34.here hx rfl (hb hby d1_82) rfl ?_
    refine st36 _ ?_
    show Steps p.tables e below (T36.setTop (mkF m 87 #[.val (.ref t0), .val (.ref s0), .val (.ref s1), .val (.ref s1), .val (.int mq), .val (.int (2 : Int32)), .val (.double (0 : UInt64)), .second] [(.double (0 : UInt64))])) _
    jvm_step X36.here [X36.here.top, hx, (hb hby d1_87), Value.category]
    show Steps p.tables e below (T36.setTop (mkF m 88 #[.val (.ref t0), .val (.ref s0), .val (.ref s1), .val (.ref s1), .val (.int mq), .val (.int (2 : Int32)), .val (.double (0 : UInt64)), .second] [])) _
    refine XS.iinc X36.here hx rfl (hb hby d1_88) rfl (l' := #[.val (.ref t0), .val (.ref s0), .val (.ref s1), .val (.ref s1), .val (.int mq), .val (.int ((2 : Int32) + (1 : Int32))), .val (.double (0 : UInt64)), .second]) rfl ?_
    show Steps p.tables e below (T36.setTop (mkF m 91 #[.val (.ref t0), .val (.ref s0), .val (.ref s1), .val (.ref s1), .val (.int mq), .val (.int ((2 : Int32) + (1 : Int32))), .val (.double (0 : UInt64)), .second] [])) _
    rw [show ((2 : Int32) + (1 : Int32)) = (3 : Int32) by decide]
    show Steps p.tables e below (T36.setTop (mkF m 91 #[.val (.ref t0), .val (.ref s0), .val (.ref s1), .val (.ref s1), .val (.int mq), .val (.int (3 : Int32)), .val (.double (0 : UInt64)), .second] [])) _
    refine XS.goto X36.here hx rfl (pc0 := 91) (pc' := 69) rfl (hb hby d1_91) (by decide) (by decide) ?_
    show Steps p.tables e below (T36.setTop (mkF m 69 #[.val (.ref t0), .val (.ref s0), .val (.ref s1), .val (.ref s1), .val (.int mq), .val (.int (3 : Int32)), .val (.double (0 : UInt64)), .second] [])) _
    refine XS.iload X36.here hx rfl (hb hby d1_69) rfl ?_
    refine XS.iload X36.here hx rfl (hb hby d1_71) rfl ?_
    refine XS.icmpYes X36.here hx rfl (pc0 := 73) (pc' := 94) rfl (hb hby d1_73) rfl (flt hc73_3).2.1 (by decide) (by decide) ?_
    exact X36.returnOut hx Bd.returns (hb hby d1_94) hr
  · show Q_ini23 Z t0 s0 s1 nq ka mq kb h0 n0 _ T36.heap _
    rw [e36]
    exact ⟨rfl, N36, K18, f19, f20, f24⟩
def Q_ini30 (Z : State) (t0 : Addr) (s0 : Addr) (s1 : Addr) (nq : Int32) (ka : ClassId) (mq : Int32) (kb : ClassId) (h0 : Heap) (n0 : Nat) (v : Option Value) (h : Heap) (L : List Loc) : Prop := v = none ∧ Fr n0 L ∧ Keep h0 h [t0] ∧ Exa Z h t0 "com/example/hedge/hedge/RewardStructure" ∧ Fld Z h t0 "com/example/hedge/hedge/RewardStructure" "state" "[D" (.ref s0) ∧ Fld Z h t0 "com/example/hedge/hedge/RewardStructure" "transition" "[D" (.ref s1)
set_option maxRecDepth 65536 in
set_option maxHeartbeats 40000000 in
theorem ini30 (l : Launch) (Z : State) (a0 : Array Value) (hw : ∀ d ∈ tables_1, d.before a0 Z = true) (ws : List Jvm.Cond) (t0 : Addr) (s0 : Addr) (s1 : Addr) (nq : Int32) (ka : ClassId) (mq : Int32) (kb : ClassId) (h0 : Heap) (n0 : Nat) (Z0 : n0 ≤ h0.size) (E_t0 : Exa Z h0 t0 "com/example/hedge/hedge/RewardStructure") (g_t0 : n0 ≤ t0) (F_state_t0 : Fld Z h0 t0 "com/example/hedge/hedge/RewardStructure" "state" "[D" .null) (F_transition_t0 : Fld Z h0 t0 "com/example/hedge/hedge/RewardStructure" "transition" "[D" .null) (E_s0 : Exa Z h0 s0 "[D") (V_s0 : Arv Z h0 s0 ka .double nq [] (.double (0 : UInt64))) (V_s1 : Arv Z h0 s1 kb .double mq [] (.double (0 : UInt64))) (ne_t0_s0 : t0 ≠ s0) (ne_t0_s1 : t0 ≠ s1) (hc35 : (0 : Int32) < nq) (hin41 : ¬ (0 : Int32) < 0 ∧ (0 : Int32) < nq) (hc35_1 : (1 : Int32) < nq) (hin41_1 : ¬ (1 : Int32) < 0 ∧ (1 : Int32) < nq) (hc35_2 : (2 : Int32) < nq) (hin41_2 : ¬ (2 : Int32) < 0 ∧ (2 : Int32) < nq) (hc35_3 : ¬ ((3 : Int32) < nq)) (hc73 : ¬ ((0 : Int32) < mq)) :
    MetFree l (⟨"com/example/hedge/hedge/RewardStructure", "<init>", "([D[D)V"⟩ : MethodName) (head1 (Jvm.Cond.code (⟨"com/example/hedge/hedge/RewardStructure", "<init>", "([D[D)V"⟩ : MethodName) prog_30_method_1_code 8 none :: ws) ({ frames := 1, cells := 2, slots := 24, locals := 14 } : Room)) (fun a U => a = #[(.ref t0), (.ref s0), (.ref s1)] ∧ Z.Warmed39 U.vm ∧ U.heap = h0) (fun _ _ _ _ _ => True) (fun _ U o U' => ∃ v L, o = .returned v ∧ Q_ini30 Z t0 s0 s1 nq ka mq kb h0 n0 v U'.heap L ∧ ReturnedEndW U o U' L ({ frames := 1, cells := 2, slots := 24, locals := 14 } : Room).cells ({ frames := 1, cells := 2, slots := 24, locals := 14 } : Room).slots) := by
  refine MetFree.of_bodySF (plainFor_of_name pn_com_example_hedge_hedge_RewardStructure) hisR ?_
  intro p e s m args below meth c s₁ Bd hml0 hP hK
  obtain ⟨rfl, hZ, hh⟩ := hP
  have hx := Bd.exec
  have hby := Bd.bytes
  have hml : c.maxLocals = 8 := hml0
  have hown : s.vm.findClass "com/example/hedge/hedge/RewardStructure" = some m.cls := findClass_of_methodNamed Bd.named
  have hnm := (name_of_methodNamed Bd.named Bd.method).1
  have X0 : Stand p l e ({ frames := 1, cells := 2, slots := 24, locals := 14 } : Room) s m #[(.ref t0), (.ref s0), (.ref s1)] below meth c s₁ [] 0 0 := Stand.of_body Bd
  have e0 : s₁.heap = h0 := by rw [← hh, Bd.state]; rfl
  have N0 := Fr.nil n0
  have pre0 : ∀ t, Steps p.tables e below (s₁.setTop (mkF m 0 #[.val (.ref t0), .val (.ref s0), .val (.ref s1), .unset, .unset, .unset, .unset, .unset] [])) t → Steps p.tables e below (s₁.setTop (entryFrame m #[(.ref t0), (.ref s0), (.ref s1)] 8)) t := fun t k => castTop (ef_1_RRR m t0 s0 s1) k
  obtain ⟨vm0, k00, X0, hS0, hk0, hZ0, hown0⟩ := own_W0 X0 e0 hZ hown
  obtain ⟨T1, X1, e1, st1⟩ := initO X0 hx hZ0 hown0 (hw _ (List.mem_of_getElem? (i := 7) rfl)) (hw _ (List.mem_of_getElem? (i := 8) rfl)) (hw _ (List.mem_of_getElem? (i := 9) rfl)) e0 (g := (mkF m 1 #[.val (.ref t0), .val (.ref s0), .val (.ref s1), .unset, .unset, .unset, .unset, .unset] [(.ref t0)])) rfl (by rw [hml]; rfl) rfl (hb hby d1_1) (by decide) (W := 0) (by show 2 * 0 + _ ≤ _; exact Nat.le_of_eq rfl) (by decide)
  obtain ⟨a2, T2, h2, kq2, X2, e2, E2, hS2, hkq2, hZ2, hown2, st2⟩ := ldcS X1 hx hZ0 hown0 (hw _ (List.mem_of_getElem? (i := 10) rfl)) (own_satoms hw) e1 hS0 hk0 (g := (mkF m 6 #[.val (.ref t0), .val (.ref s0), .val (.ref s1), .unset, .unset, .unset, .unset, .unset] [(.ref s0), (.ref t0)])) rfl (hb hby d1_6) (n := 20) (by decide) (by decide) (by decide) (by decide)
  have f3 := E_t0.ext E2
  have f4 := F_state_t0.ext E2
  have f5 := F_transition_t0.ext E2
  have f6 := E_s0.ext E2
  have f7 := V_s0.ext E2
  have f8 := V_s1.ext E2
  have K2 : Keep h0 h2 [t0] := (Keep.refl h0 [t0]).ext E2
  have Zs2 := Nat.le_trans Z0 E2.1
  have hk2 := Nat.le_trans hk0 E2.1
  obtain ⟨_, _, ⟨T9, L9, k9, n9⟩, -, X9, ⟨Lc9, hQ9, lq9, yq9, zq9⟩, st9⟩ := Jvm.LawKit.callS X2 hx (y := (⟨"java/util/Objects", "requireNonNull", "(Ljava/lang/Object;Ljava/lang/String;)Ljava/lang/Object;"⟩ : MethodName)) hown2 (mvT hZ2 (hw _ (List.mem_of_getElem? (i := 18) rfl))) (mvT hZ2 (hw _ (List.mem_of_getElem? (i := 19) rfl))) (mvT hZ2 (hw _ (List.mem_of_getElem? (i := 20) rfl))) (mvT hZ2 (hw _ (List.mem_of_getElem? (i := 21) rfl))) (by decide) (backOf (W := 1) (rn l Z a0 hw [] s0 a2 h2 n0 Zs2 ) hZ2 (hw _ (List.mem_of_getElem? (i := 21) rfl)) (hw _ (List.mem_of_getElem? (i := 20) rfl)) (by decide) (by decide)) (g := (mkF m 8 #[.val (.ref t0), .val (.ref s0), .val (.ref s1), .unset, .unset, .unset, .unset, .unset] [(.ref a2), (.ref s0), (.ref t0)])) rfl (by rw [hml]; rfl) (argsL := [(.ref s0), (.ref a2)]) (rest := [(.ref t0)]) (lenOf pd_0 rfl) rfl (by show 2 * 0 + _ ≤ _; exact Nat.le_of_eq rfl) (hb hby d1_8) (fun _ _ => ⟨rfl, e2, (by decide : 2 + 0 ≤ _), (by decide : 24 + 0 ≤ _)⟩)
  dsimp only [Pt.U, Pt.locs, Pt.cells, Pt.slots] at X9 lq9 yq9 zq9 st9 hQ9
  rw [lq9, yq9, zq9] at X9
  obtain ⟨rfl, N9q, eh9⟩ := hQ9
  have N9 := Fr.app N0 N9q
  have e9 : T9.heap = h2 := eh9
  obtain ⟨T10, X10, e10, st10⟩ := castY X9 hx hZ2 hown2 (hw _ (List.mem_of_getElem? (i := 22) rfl)) e9 (Ins.self f6) (g := (mkF m 11 #[.val (.ref t0), .val (.ref s0), .val (.ref s1), .unset, .unset, .unset, .unset, .unset] [(.ref s0), (.ref t0)])) rfl rfl (hb hby d1_11)
  obtain ⟨T11, h11, X11, e11, W11, st11⟩ := putF X10 hx hZ2 hown2 (host := "") (Or.inl (hw _ (List.mem_of_getElem? (i := 24) rfl))) Via.refl e10 f4 f3 (Or.inr ⟨(hw _ (List.mem_of_getElem? (i := 25) rfl)), rfl, hnm⟩) (hw _ (List.mem_of_getElem? (i := 2) rfl)) (ty := (.array .double)) (by decide) rfl rfl (g := (mkF m 14 #[.val (.ref t0), .val (.ref s0), .val (.ref s1), .unset, .unset, .unset, .unset, .unset] [(.ref s0), (.ref t0)])) rfl rfl (hb hby d1_14)
  have f12 := f3.wr W11
  have f13 := f5.other W11 (Or.inr (so_RewardStructure_transition_state hw))
  have f14 := f6.wr W11
  have f15 := f7.other W11 (Ne.symm ne_t0_s0)
  have f16 := f8.other W11 (Ne.symm ne_t0_s1)
  have K11 : Keep h0 h11 [t0] := K2.wr W11 (Or.inl (List.mem_of_getElem? (i := 0) rfl))
  have Zs11 := Nat.le_trans Zs2 (Keep.of_wr W11).1
  have hk11 := Nat.le_trans hkq2 (Keep.of_wr W11).1
  have N11 := Fr.snoc X11 N9 g_t0
  have f17 : Fld Z h11 t0 "com/example/hedge/hedge/RewardStructure" "state" "[D" (.ref s0) := f4.same W11
  obtain ⟨T18, h18, X18, e18, W18, st18⟩ := putF X11 hx hZ2 hown2 (host := "") (Or.inl (hw _ (List.mem_of_getElem? (i := 26) rfl))) Via.refl e11 f13 f12 (Or.inr ⟨(hw _ (List.mem_of_getElem? (i := 27) rfl)), rfl, hnm⟩) (hw _ (List.mem_of_getElem? (i := 2) rfl)) (ty := (.array .double)) (by decide) rfl rfl (g := (mkF m 19 #[.val (.ref t0), .val (.ref s0), .val (.ref s1), .unset, .unset, .unset, .unset, .unset] [(.ref s1), (.ref t0)])) rfl rfl (hb hby d1_19)
  have f19 := f12.wr W18
  have f20 := f17.other W18 (Or.inr (so_RewardStructure_state_transition hw))
  have f21 := f14.wr W18
  have f22 := f15.other W18 (Ne.symm ne_t0_s0)
  have f23 := f16.other W18 (Ne.symm ne_t0_s1)
  have K18 : Keep h0 h18 [t0] := K11.wr W18 (Or.inl (List.mem_of_getElem? (i := 0) rfl))
  have Zs18 := Nat.le_trans Zs11 (Keep.of_wr W18).1
  have hk18 := Nat.le_trans hk11 (Keep.of_wr W18).1
  have N18 := Fr.snoc X18 N11 g_t0
  have f24 : Fld Z h18 t0 "com/example/hedge/hedge/RewardStructure" "transition" "[D" (.ref s1) := f13.same W18
  obtain ⟨cq25, Arq25, -, Sq25, Nq25, -, -⟩ := id f22
  obtain ⟨cq26, Arq26, -, Sq26, -, Hq26, -⟩ := id f22
  obtain ⟨_, _, ⟨T27, L27, k27, n27⟩, -, X27, ⟨Lc27, hQ27, lq27, yq27, zq27⟩, st27⟩ := Jvm.LawKit.callS X18 hx (y := (⟨"com/example/hedge/hedge/RewardStructure", "checkReward", "(D)D"⟩ : MethodName)) hown2 (mvT hZ2 (hw _ (List.mem_of_getElem? (i := 33) rfl))) (mvT hZ2 (hw _ (List.mem_of_getElem? (i := 34) rfl))) (mvT hZ2 (hw _ (List.mem_of_getElem? (i := 3) rfl))) (mvT hZ2 (hw _ (List.mem_of_getElem? (i := 35) rfl))) (by decide) (backOf (W := 0) (cr l Z a0 hw []  h18 n0 Zs18 ) hZ2 (hw _ (List.mem_of_getElem? (i := 35) rfl)) (hw _ (List.mem_of_getElem? (i := 3) rfl)) (by decide) (by decide)) (g := (mkF m 46 #[.val (.ref t0), .val (.ref s0), .val (.ref s1), .val (.ref s0), .val (.int nq), .val (.int (0 : Int32)), .val (.double (0 : UInt64)), .second] [(.double (0 : UInt64))])) rfl (by rw [hml]; rfl) (argsL := [(.double (0 : UInt64))]) (rest := []) (lenOf pd_1 rfl) rfl (by show 2 * 0 + _ ≤ _; exact Nat.le_of_eq rfl) (hb hby d1_46) (fun _ _ => ⟨rfl, e18, (by decide : 2 + 0 ≤ _), (by decide : 24 + 0 ≤ _)⟩)
  dsimp only [Pt.U, Pt.locs, Pt.cells, Pt.slots] at X27 lq27 yq27 zq27 st27 hQ27
  rw [lq27, yq27, zq27] at X27
  obtain ⟨rfl, N27q, eh27⟩ := hQ27
  have N27 := Fr.app N18 N27q
  have e27 : T27.heap = h18 := eh27
  obtain ⟨cq28, Arq28, -, Sq28, -, Hq28, -⟩ := id f22
  obtain ⟨_, _, ⟨T29, L29, k29, n29⟩, -, X29, ⟨Lc29, hQ29, lq29, yq29, zq29⟩, st29⟩ := Jvm.LawKit.callS X27 hx (y := (⟨"com/example/hedge/hedge/RewardStructure", "checkReward", "(D)D"⟩ : MethodName)) hown2 (mvT hZ2 (hw _ (List.mem_of_getElem? (i := 33) rfl))) (mvT hZ2 (hw _ (List.mem_of_getElem? (i := 34) rfl))) (mvT hZ2 (hw _ (List.mem_of_getElem? (i := 3) rfl))) (mvT hZ2 (hw _ (List.mem_of_getElem? (i := 35) rfl))) (by decide) (backOf (W := 0) (cr l Z a0 hw []  h18 n0 Zs18 ) hZ2 (hw _ (List.mem_of_getElem? (i := 35) rfl)) (hw _ (List.mem_of_getElem? (i := 3) rfl)) (by decide) (by decide)) (g := (mkF m 46 #[.val (.ref t0), .val (.ref s0), .val (.ref s1), .val (.ref s0), .val (.int nq), .val (.int (1 : Int32)), .val (.double (0 : UInt64)), .second] [(.double (0 : UInt64))])) rfl (by rw [hml]; rfl) (argsL := [(.double (0 : UInt64))]) (rest := []) (lenOf pd_1 rfl) rfl (by show 2 * 0 + _ ≤ _; exact Nat.le_of_eq rfl) (hb hby d1_46) (fun _ _ => ⟨rfl, e27, (by decide : 2 + 0 ≤ _), (by decide : 24 + 0 ≤ _)⟩)
  dsimp only [Pt.U, Pt.locs, Pt.cells, Pt.slots] at X29 lq29 yq29 zq29 st29 hQ29
  rw [lq29, yq29, zq29] at X29
  obtain ⟨rfl, N29q, eh29⟩ := hQ29
  have N29 := Fr.app N27 N29q
  have e29 : T29.heap = h18 := eh29
  obtain ⟨cq30, Arq30, -, Sq30, -, Hq30, -⟩ := id f22
  obtain ⟨_, _, ⟨T31, L31, k31, n31⟩, -, X31, ⟨Lc31, hQ31, lq31, yq31, zq31⟩, st31⟩ := Jvm.LawKit.callS X29 hx (y := (⟨"com/example/hedge/hedge/RewardStructure", "checkReward", "(D)D"⟩ : MethodName)) hown2 (mvT hZ2 (hw _ (List.mem_of_getElem? (i := 33) rfl))) (mvT hZ2 (hw _ (List.mem_of_getElem? (i := 34) rfl))) (mvT hZ2 (hw _ (List.mem_of_getElem? (i := 3) rfl))) (mvT hZ2 (hw _ (List.mem_of_getElem? (i := 35) rfl))) (by decide) (backOf (W := 0) (cr l Z a0 hw []  h18 n0 Zs18 ) hZ2 (hw _ (List.mem_of_getElem? (i := 35) rfl)) (hw _ (List.mem_of_getElem? (i := 3) rfl)) (by decide) (by decide)) (g := (mkF m 46 #[.val (.ref t0), .val (.ref s0), .val (.ref s1), .val (.ref s0), .val (.int nq), .val (.int (2 : Int32)), .val (.double (0 : UInt64)), .second] [(.double (0 : UInt64))])) rfl (by rw [hml]; rfl) (argsL := [(.double (0 : UInt64))]) (rest := []) (lenOf pd_1 rfl) rfl (by show 2 * 0 + _ ≤ _; exact Nat.le_of_eq rfl) (hb hby d1_46) (fun _ _ => ⟨rfl, e29, (by decide : 2 + 0 ≤ _), (by decide : 24 + 0 ≤ _)⟩)
  dsimp only [Pt.U, Pt.locs, Pt.cells, Pt.slots] at X31 lq31 yq31 zq31 st31 hQ31
  rw [lq31, yq31, zq31] at X31
  obtain ⟨rfl, N31q, eh31⟩ := hQ31
  have N31 := Fr.app N29 N31q
  have e31 : T31.heap = h18 := eh31
  obtain ⟨cq32, Arq32, -, Sq32, Nq32, -, -⟩ := id f23
  obtain ⟨fs, hr, hrun, hended, hRW⟩ := X31.leaveW hS2 (by rw [e31]; exact hk18) (v := none) (fun _ => rfl)
  refine ⟨_, _, pre0 _ ?_, hrun, hended, _, _, rfl, ?_, ⟨_, rfl⟩, hRW.2.1, hRW.2.2.1, hRW.2.2.2.mono (by decide) (by decide)⟩
  · show Steps p.tables e below (s₁.setTop (mkF m 0 #[.val (.ref t0), .val (.ref s0), .val (.ref s1), .unset, .unset, .unset, .unset, .unset] [])) _
    refine XS.aloadN X0.here hx rfl (hb hby d1_0) rfl rfl ?_
    refine st1 _ ?_
    show Steps p.tables e below (T1.setTop (mkF m 4 #[.val (.ref t0), .val (.ref s0), .val (.ref s1), .unset, .unset, .unset, .unset, .unset] [])) _
    refine XS.aloadN X1.here hx rfl (hb hby d1_4) rfl rfl ?_
    refine XS.aloadN X1.here hx rfl (hb hby d1_5) rfl rfl ?_
    refine st2 _ ?_
    show Steps p.tables e below (T2.setTop (mkF m 8 #[.val (.ref t0), .val (.ref s0), .val (.ref s1), .unset, .unset, .unset, .unset, .unset] [(.ref a2), (.ref s0), (.ref t0)])) _
    refine st9 _ ?_
    show Steps p.tables e below (T9.setTop (mkF m 11 #[.val (.ref t0), .val (.ref s0), .val (.ref s1), .unset, .unset, .unset, .unset, .unset] [(.ref s0), (.ref t0)])) _
    refine st10 _ ?_
    show Steps p.tables e below (T10.setTop (mkF m 14 #[.val (.ref t0), .val (.ref s0), .val (.ref s1), .unset, .unset, .unset, .unset, .unset] [(.ref s0), (.ref t0)])) _
    refine st11 _ ?_
    show Steps p.tables e below (T11.setTop (mkF m 17 #[.val (.ref t0), .val (.ref s0), .val (.ref s1), .unset, .unset, .unset, .unset, .unset] [])) _
    refine XS.aloadN X11.here hx rfl (hb hby d1_17) rfl rfl ?_
    refine XS.aloadN X11.here hx rfl (hb hby d1_18) rfl rfl ?_
    refine st18 _ ?_
    show Steps p.tables e below (T18.setTop (mkF m 22 #[.val (.ref t0), .val (.ref s0), .val (.ref s1), .unset, .unset, .unset, .unset, .unset] [])) _
    refine XS.aloadN X18.here hx rfl (hb hby d1_22) rfl rfl ?_
    refine XS.astoreN X18.here hx rfl (hb hby d1_23) rfl rfl (l' := #[.val (.ref t0), .val (.ref s0), .val (.ref s1), .val (.ref s0), .unset, .unset, .unset, .unset]) rfl ?_
    refine XS.aloadN X18.here hx rfl (hb hby d1_24) rfl rfl ?_
    refine X18.arraylength hx (by rw [e18]; exact Arq25.1) (State.isArrayOf_alike hZ2.alike Arq25.2.1) (g := (mkF m 25 #[.val (.ref t0), .val (.ref s0), .val (.ref s1), .val (.ref s0), .unset, .unset, .unset, .unset] [(.ref s0)])) rfl rfl (hb hby d1_25) _ ?_
    rw [len_of Sq25 Nq25]
    show Steps p.tables e below (T18.setTop (mkF m 26 #[.val (.ref t0), .val (.ref s0), .val (.ref s1), .val (.ref s0), .unset, .unset, .unset, .unset] [(.int nq)])) _
    refine XS.istore X18.here hx rfl (hb hby d1_26) rfl (l' := #[.val (.ref t0), .val (.ref s0), .val (.ref s1), .val (.ref s0), .val (.int nq), .unset, .unset, .unset]) rfl ?_
    refine XS.iconst X18.here hx rfl (hb hby d1_28) ?_
    show Steps p.tables e below (T18.setTop (mkF m 29 #[.val (.ref t0), .val (.ref s0), .val (.ref s1), .val (.ref s0), .val (.int nq), .unset, .unset, .unset] [(.int (0 : Int32))])) _
    refine XS.istore X18.here hx rfl (hb hby d1_29) rfl (l' := #[.val (.ref t0), .val (.ref s0), .val (.ref s1), .val (.ref s0), .val (.int nq), .val (.int (0 : Int32)), .unset, .unset]) rfl ?_
    refine XS.iload X18.here hx rfl (hb hby d1_31) rfl ?_
    refine XS.iload X18.here hx rfl (hb hby d1_33) rfl ?_
    refine XS.icmpNo X18.here hx rfl (hb hby d1_35) rfl (tlt hc35).2.1 ?_
    refine XS.aloadN X18.here hx rfl (hb hby d1_38) rfl rfl ?_
    refine XS.iload X18.here hx rfl (hb hby d1_39) rfl ?_
    show Steps p.tables e below (T18.setTop (mkF m 41 #[.val (.ref t0), .val (.ref s0), .val (.ref s1), .val (.ref s0), .val (.int nq), .val (.int (0 : Int32)), .unset, .unset] [(.int (0 : Int32)), (.ref s0)])) _
    refine X18.daload hx (j := (0 : Int32)) (v := (.double (0 : UInt64))) (by rw [e18]; exact Arq26.1) (State.isArrayOf_alike hZ2.alike Arq26.2.1) Arq26.2.2 (inb_of Sq26 hin41) (Has.at Hq26 (inb_of Sq26 hin41) rfl) (g := (mkF m 41 #[.val (.ref t0), .val (.ref s0), .val (.ref s1), .val (.ref s0), .val (.int nq), .val (.int (0 : Int32)), .unset, .unset] [(.int (0 : Int32)), (.ref s0)])) rfl rfl (hb hby d1_41) _ ?_
    show Steps p.tables e below (T18.setTop (mkF m 42 #[.val (.ref t0), .val (.ref s0), .val (.ref s1), .val (.ref s0), .val (.int nq), .val (.int (0 : Int32)), .unset, .unset] [(.double (0 : UInt64))])) _
    refine XS.dstore X18.here hx rfl (hb hby d1_42) rfl (l' := #[.val (.ref t0), .val (.ref s0), .val (.ref s1), .val (.ref s0), .val (.int nq), .val (.int (0 : Int32)), .val (.double (0 : UInt64)), .second]) rfl ?_
    refine XS.dload X18.here hx rfl (hb hby d1_44) rfl ?_
    refine st27 _ ?_
    show Steps p.tables e below (T27.setTop (mkF m 49 #[.val (.ref t0), .val (.ref s0), .val (.ref s1), .val (.ref s0), .val (.int nq), .val (.int (0 : Int32)), .val (.double (0 : UInt64)), .second] [(.double (0 : UInt64))])) _
    jvm_step X27.here [X27.here.top, hx, (hb hby d1_49), Value.category]
    show Steps p.tables e below (T27.setTop (mkF m 50 #[.val (.ref t0), .val (.ref s0), .val (.ref s1), .val (.ref s0), .val (.int nq), .val (.int (0 : Int32)), .val (.double (0 : UInt64)), .second] [])) _
    refine XS.iinc X27.here hx rfl (hb hby d1_50) rfl (l' := #[.val (.ref t0), .val (.ref s0), .val (.ref s1), .val (.ref s0), .val (.int nq), .val (.int ((0 : Int32) + (1 : Int32))), .val (.double (0 : UInt64)), .second]) rfl ?_
    show Steps p.tables e below (T27.setTop (mkF m 53 #[.val (.ref t0), .val (.ref s0), .val (.ref s1), .val (.ref s0), .val (.int nq), .val (.int ((0 : Int32) + (1 : Int32))), .val (.double (0 : UInt64)), .second] [])) _
    rw [show ((0 : Int32) + (1 : Int32)) = (1 : Int32) by decide]
    show Steps p.tables e below (T27.setTop (mkF m 53 #[.val (.ref t0), .val (.ref s0), .val (.ref s1), .val (.ref s0), .val (.int nq), .val (.int (1 : Int32)), .val (.double (0 : UInt64)), .second] [])) _
    refine XS.goto X27.here hx rfl (pc0 := 53) (pc' := 31) rfl (hb hby d1_53) (by decide) (by decide) ?_
    refine XS.iload X27.here hx rfl (hb hby d1_31) rfl ?_
    refine XS.iload X27.here hx rfl (hb hby d1_33) rfl ?_
    refine XS.icmpNo X27.here hx rfl (hb hby d1_35) rfl (tlt hc35_1).2.1 ?_
    refine XS.aloadN X27.here hx rfl (hb hby d1_38) rfl rfl ?_
    show Steps p.tables e below (T27.setTop (mkF m 39 #[.val (.ref t0), .val (.ref s0), .val (.ref s1), .val (.ref s0), .val (.int nq), .val (.int (1 : Int32)), .val (.double (0 : UInt64)), .second] [(.ref s0)])) _
    refine XS.iload X27.here hx rfl (hb hby d1_39) rfl ?_
    refine X27.daload hx (j := (1 : Int32)) (v := (.double (0 : UInt64))) (by rw [e27]; exact Arq28.1) (State.isArrayOf_alike hZ2.alike Arq28.2.1) Arq28.2.2 (inb_of Sq28 hin41_1) (Has.at Hq28 (inb_of Sq28 hin41_1) rfl) (g := (mkF m 41 #[.val (.ref t0), .val (.ref s0), .val (.ref s1), .val (.ref s0), .val (.int nq), .val (.int (1 : Int32)), .val (.double (0 : UInt64)), .second] [(.int (1 : Int32)), (.ref s0)])) rfl rfl (hb hby d1_41) _ ?_
    show Steps p.tables e below (T27.setTop (mkF m 42 #[.val (.ref t0), .val (.ref s0), .val (.ref s1), .val (.ref s0), .val (.int nq), .val (.int (1 : Int32)), .val (.double (0 : UInt64)), .second] [(.double (0 : UInt64))])) _
    refine XS.dstore X27.here hx rfl (hb hby d1_42) rfl (l' := #[.val (.ref t0), .val (.ref s0), .val (.ref s1), .val (.ref s0), .val (.int nq), .val (.int (1 : Int32)), .val (.double (0 : UInt64)), .second]) rfl ?_
    refine XS.dload X27.here hx rfl (hb hby d1_44) rfl ?_
    refine st29 _ ?_
    show Steps p.tables e below (T29.setTop (mkF m 49 #[.val (.ref t0), .val (.ref s0), .val (.ref s1), .val (.ref s0), .val (.int nq), .val (.int (1 : Int32)), .val (.double (0 : UInt64)), .second] [(.double (0 : UInt64))])) _
    jvm_step X29.here [X29.here.top, hx, (hb hby d1_49), Value.category]
    show Steps p.tables e below (T29.setTop (mkF m 50 #[.val (.ref t0), .val (.ref s0), .val (.ref s1), .val (.ref s0), .val (.int nq), .val (.int (1 : Int32)), .val (.double (0 : UInt64)), .second] [])) _
    refine XS.iinc X29.here hx rfl (hb hby d1_50) rfl (l' := #[.val (.ref t0), .val (.ref s0), .val (.ref s1), .val (.ref s0), .val (.int nq), .val (.int ((1 : Int32) + (1 : Int32))), .val (.double (0 : UInt64)), .second]) rfl ?_
    show Steps p.tables e below (T29.setTop (mkF m 53 #[.val (.ref t0), .val (.ref s0), .val (.ref s1), .val (.ref s0), .val (.int nq), .val (.int ((1 : Int32) + (1 : Int32))), .val (.double (0 : UInt64)), .second] [])) _
    rw [show ((1 : Int32) + (1 : Int32)) = (2 : Int32) by decide]
    show Steps p.tables e below (T29.setTop (mkF m 53 #[.val (.ref t0), .val (.ref s0), .val (.ref s1), .val (.ref s0), .val (.int nq), .val (.int (2 : Int32)), .val (.double (0 : UInt64)), .second] [])) _
    refine XS.goto X29.here hx rfl (pc0 := 53) (pc' := 31) rfl (hb hby d1_53) (by decide) (by decide) ?_
    refine XS.iload X29.here hx rfl (hb hby d1_31) rfl ?_
    refine XS.iload X29.here hx rfl (hb hby d1_33) rfl ?_
    refine XS.icmpNo X29.here hx rfl (hb hby d1_35) rfl (tlt hc35_2).2.1 ?_
    show Steps p.tables e below (T29.setTop (mkF m 38 #[.val (.ref t0), .val (.ref s0), .val (.ref s1), .val (.ref s0), .val (.int nq), .val (.int (2 : Int32)), .val (.double (0 : UInt64)), .second] [])) _
    refine XS.aloadN X29.here hx rfl (hb hby d1_38) rfl rfl ?_
    refine XS.iload X29.here hx rfl (hb hby d1_39) rfl ?_
    refine X29.daload hx (j := (2 : Int32)) (v := (.double (0 : UInt64))) (by rw [e29]; exact Arq30.1) (State.isArrayOf_alike hZ2.alike Arq30.2.1) Arq30.2.2 (inb_of Sq30 hin41_2) (Has.at Hq30 (inb_of Sq30 hin41_2) rfl) (g := (mkF m 41 #[.val (.ref t0), .val (.ref s0), .val (.ref s1), .val (.ref s0), .val (.int nq), .val (.int (2 : Int32)), .val (.double (0 : UInt64)), .second] [(.int (2 : Int32)), (.ref s0)])) rfl rfl (hb hby d1_41) _ ?_
    show Steps p.tables e below (T29.setTop (mkF m 42 #[.val (.ref t0), .val (.ref s0), .val (.ref s1), .val (.ref s0), .val (.int nq), .val (.int (2 : Int32)), .val (.double (0 : UInt64)), .second] [(.double (0 : UInt64))])) _
    refine XS.dstore X29.here hx rfl (hb hby d1_42) rfl (l' := #[.val (.ref t0), .val (.ref s0), .val (.ref s1), .val (.ref s0), .val (.int nq), .val (.int (2 : Int32)), .val (.double (0 : UInt64)), .second]) rfl ?_
    refine XS.dload X29.here hx rfl (hb hby d1_44) rfl ?_
    refine st31 _ ?_
    show Steps p.tables e below (T31.setTop (mkF m 49 #[.val (.ref t0), .val (.ref s0), .val (.ref s1), .val (.ref s0), .val (.int nq), .val (.int (2 : Int32)), .val (.double (0 : UInt64)), .second] [(.double (0 : UInt64))])) _
    jvm_step X31.here [X31.here.top, hx, (hb hby d1_49), Value.category]
    show Steps p.tables e below (T31.setTop (mkF m 50 #[.val (.ref t0), .val (.ref s0), .val (.ref s1), .val (.ref s0), .val (.int nq), .val (.int (2 : Int32)), .val (.double (0 : UInt64)), .second] [])) _
    refine XS.iinc X31.here hx rfl (hb hby d1_50) rfl (l' := #[.val (.ref t0), .val (.ref s0), .val (.ref s1), .val (.ref s0), .val (.int nq), .val (.int ((2 : Int32) + (1 : Int32))), .val (.double (0 : UInt64)), .second]) rfl ?_
    show Steps p.tables e below (T31.setTop (mkF m 53 #[.val (.ref t0), .val (.ref s0), .val (.ref s1), .val (.ref s0), .val (.int nq), .val (.int ((2 : Int32) + (1 : Int32))), .val (.double (0 : UInt64)), .second] [])) _
    rw [show ((2 : Int32) + (1 : Int32)) = (3 : Int32) by decide]
    show Steps p.tables e below (T31.setTop (mkF m 53 #[.val (.ref t0), .val (.ref s0), .val (.ref s1), .val (.ref s0), .val (.int nq), .val (.int (3 : Int32)), .val (.double (0 : UInt64)), .second] [])) _
    refine XS.goto X31.here hx rfl (pc0 := 53) (pc' := 31) rfl (hb hby d1_53) (by decide) (by decide) ?_
    refine XS.iload X31.here hx rfl (hb hby d1_31) rfl ?_
    refine XS.iload X31.here hx rfl (hb hby d1_33) rfl ?_
    show Steps p.tables e below (T31.setTop (mkF m 35 #[.val (.ref t0), .val (.ref s0), .val (.ref s1), .val (.ref s0), .val (.int nq), .val (.int (3 : Int32)), .val (.double (0 : UInt64)), .second] [(.int nq), (.int (3 : Int32))])) _
    refine XS.icmpYes X31.here hx rfl (pc0 := 35) (pc' := 56) rfl (hb hby d1_35) rfl (flt hc35_3).2.1 (by decide) (by decide) ?_
    refine XS.aloadN X31.here hx rfl (hb hby d1_56) rfl rfl ?_
    refine XS.ifnullNo X31.here hx rfl (hb hby d1_57) rfl ?_
    refine XS.aloadN X31.here hx rfl (hb hby d1_60) rfl rfl ?_
    refine XS.astoreN X31.here hx rfl (hb hby d1_61) rfl rfl (l' := #[.val (.ref t0), .val (.ref s0), .val (.ref s1), .val (.ref s1), .val (.int nq), .val (.int (3 : Int32)), .val (.double (0 : UInt64)), .second]) rfl ?_
    refine XS.aloadN X31.here hx rfl (hb hby d1_62) rfl rfl ?_
    show Steps p.tables e below (T31.setTop (mkF m 63 #[.val (.ref t0), .val (.ref s0), .val (.ref s1), .val (.ref s1), .val (.int nq), .val (.int (3 : Int32)), .val (.double (0 : UInt64)), .second] [(.ref s1)])) _
    refine X31.arraylength hx (by rw [e31]; exact Arq32.1) (State.isArrayOf_alike hZ2.alike Arq32.2.1) (g := (mkF m 63 #[.val (.ref t0), .val (.ref s0), .val (.ref s1), .val (.ref s1), .val (.int nq), .val (.int (3 : Int32)), .val (.double (0 : UInt64)), .second] [(.ref s1)])) rfl rfl (hb hby d1_63) _ ?_
    rw [len_of Sq32 Nq32]
    show Steps p.tables e below (T31.setTop (mkF m 64 #[.val (.ref t0), .val (.ref s0), .val (.ref s1), .val (.ref s1), .val (.int nq), .val (.int (3 : Int32)), .val (.double (0 : UInt64)), .second] [(.int mq)])) _
    refine XS.istore X31.here hx rfl (hb hby d1_64) rfl (l' := #[.val (.ref t0), .val (.ref s0), .val (.ref s1), .val (.ref s1), .val (.int mq), .val (.int (3 : Int32)), .val (.double (0 : UInt64)), .second]) rfl ?_
    refine XS.iconst X31.here hx rfl (hb hby d1_66) ?_
    refine XS.istore X31.here hx rfl (hb hby d1_67) rfl (l' := #[.val (.ref t0), .val (.ref s0), .val (.ref s1), .val (.ref s1), .val (.int mq), .val (.int (0 : Int32)), .val (.double (0 : UInt64)), .second]) rfl ?_
    refine XS.iload X31.here hx rfl (hb hby d1_69) rfl ?_
    refine XS.iload X31.here hx rfl (hb hby d1_71) rfl ?_
    show Steps p.tables e below (T31.setTop (mkF m 73 #[.val (.ref t0), .val (.ref s0), .val (.ref s1), .val (.ref s1), .val (.int mq), .val (.int (0 : Int32)), .val (.double (0 : UInt64)), .second] [(.int mq), (.int (0 : Int32))])) _
    refine XS.icmpYes X31.here hx rfl (pc0 := 73) (pc' := 94) rfl (hb hby d1_73) rfl (flt hc73).2.1 (by decide) (by decide) ?_
    exact X31.returnOut hx Bd.returns (hb hby d1_94) hr
  · show Q_ini30 Z t0 s0 s1 nq ka mq kb h0 n0 _ T31.heap _
    rw [e31]
    exact ⟨rfl, N31, K18, f19, f20, f24⟩
def Q_ini31 (Z : State) (t0 : Addr) (s0 : Addr) (s1 : Addr) (nq : Int32) (ka : ClassId) (mq : Int32) (kb : ClassId) (h0 : Heap) (n0 : Nat) (v : Option Value) (h : Heap) (L : List Loc) : Prop := v = none ∧ Fr n0 L ∧ Keep h0 h [t0] ∧ Exa Z h t0 "com/example/hedge/hedge/RewardStructure" ∧ Fld Z h t0 "com/example/hedge/hedge/RewardStructure" "state" "[D" (.ref s0) ∧ Fld Z h t0 "com/example/hedge/hedge/RewardStructure" "transition" "[D" (.ref s1)
set_option maxRecDepth 65536 in
set_option maxHeartbeats 40000000 in
theorem ini31 (l : Launch) (Z : State) (a0 : Array Value) (hw : ∀ d ∈ tables_1, d.before a0 Z = true) (ws : List Jvm.Cond) (t0 : Addr) (s0 : Addr) (s1 : Addr) (nq : Int32) (ka : ClassId) (mq : Int32) (kb : ClassId) (h0 : Heap) (n0 : Nat) (Z0 : n0 ≤ h0.size) (E_t0 : Exa Z h0 t0 "com/example/hedge/hedge/RewardStructure") (g_t0 : n0 ≤ t0) (F_state_t0 : Fld Z h0 t0 "com/example/hedge/hedge/RewardStructure" "state" "[D" .null) (F_transition_t0 : Fld Z h0 t0 "com/example/hedge/hedge/RewardStructure" "transition" "[D" .null) (E_s0 : Exa Z h0 s0 "[D") (V_s0 : Arv Z h0 s0 ka .double nq [] (.double (0 : UInt64))) (V_s1 : Arv Z h0 s1 kb .double mq [] (.double (0 : UInt64))) (ne_t0_s0 : t0 ≠ s0) (ne_t0_s1 : t0 ≠ s1) (hc35 : (0 : Int32) < nq) (hin41 : ¬ (0 : Int32) < 0 ∧ (0 : Int32) < nq) (hc35_1 : (1 : Int32) < nq) (hin41_1 : ¬ (1 : Int32) < 0 ∧ (1 : Int32) < nq) (hc35_2 : (2 : Int32) < nq) (hin41_2 : ¬ (2 : Int32) < 0 ∧ (2 : Int32) < nq) (hc35_3 : ¬ ((3 : Int32) < nq)) (hc73 : (0 : Int32) < mq) (hin79 : ¬ (0 : Int32) < 0 ∧ (0 : Int32) < mq) (hc73_1 : ¬ ((1 : Int32) < mq)) :
    MetFree l (⟨"com/example/hedge/hedge/RewardStructure", "<init>", "([D[D)V"⟩ : MethodName) (head1 (Jvm.Cond.code (⟨"com/example/hedge/hedge/RewardStructure", "<init>", "([D[D)V"⟩ : MethodName) prog_30_method_1_code 8 none :: ws) ({ frames := 1, cells := 2, slots := 24, locals := 14 } : Room)) (fun a U => a = #[(.ref t0), (.ref s0), (.ref s1)] ∧ Z.Warmed39 U.vm ∧ U.heap = h0) (fun _ _ _ _ _ => True) (fun _ U o U' => ∃ v L, o = .returned v ∧ Q_ini31 Z t0 s0 s1 nq ka mq kb h0 n0 v U'.heap L ∧ ReturnedEndW U o U' L ({ frames := 1, cells := 2, slots := 24, locals := 14 } : Room).cells ({ frames := 1, cells := 2, slots := 24, locals := 14 } : Room).slots) := by
  refine MetFree.of_bodySF (plainFor_of_name pn_com_example_hedge_hedge_RewardStructure) hisR ?_
  intro p e s m args below meth c s₁ Bd hml0 hP hK
  obtain ⟨rfl, hZ, hh⟩ := hP
  have hx := Bd.exec
  have hby := Bd.bytes
  have hml : c.maxLocals = 8 := hml0
  have hown : s.vm.findClass "com/example/hedge/hedge/RewardStructure" = some m.cls := findClass_of_methodNamed Bd.named
  have hnm := (name_of_methodNamed Bd.named Bd.method).1
  have X0 : Stand p l e ({ frames := 1, cells := 2, slots := 24, locals := 14 } : Room) s m #[(.ref t0), (.ref s0), (.ref s1)] below meth c s₁ [] 0 0 := Stand.of_body Bd
  have e0 : s₁.heap = h0 := by rw [← hh, Bd.state]; rfl
  have N0 := Fr.nil n0
  have pre0 : ∀ t, Steps p.tables e below (s₁.setTop (mkF m 0 #[.val (.ref t0), .val (.ref s0), .val (.ref s1), .unset, .unset, .unset, .unset, .unset] [])) t → Steps p.tables e below (s₁.setTop (entryFrame m #[(.ref t0), (.ref s0), (.ref s1)] 8)) t := fun t k => castTop (ef_1_RRR m t0 s0 s1) k
  obtain ⟨vm0, k00, X0, hS0, hk0, hZ0, hown0⟩ := own_W0 X0 e0 hZ hown
  obtain ⟨T1, X1, e1, st1⟩ := initO X0 hx hZ0 hown0 (hw _ (List.mem_of_getElem? (i := 7) rfl)) (hw _ (List.mem_of_getElem? (i := 8) rfl)) (hw _ (List.mem_of_getElem? (i := 9) rfl)) e0 (g := (mkF m 1 #[.val (.ref t0), .val (.ref s0), .val (.ref s1), .unset, .unset, .unset, .unset, .unset] [(.ref t0)])) rfl (by rw [hml]; rfl) rfl (hb hby d1_1) (by decide) (W := 0) (by show 2 * 0 + _ ≤ _; exact Nat.le_of_eq rfl) (by decide)
  obtain ⟨a2, T2, h2, kq2, X2, e2, E2, hS2, hkq2, hZ2, hown2, st2⟩ := ldcS X1 hx hZ0 hown0 (hw _ (List.mem_of_getElem? (i := 10) rfl)) (own_satoms hw) e1 hS0 hk0 (g := (mkF m 6 #[.val (.ref t0), .val (.ref s0), .val (.ref s1), .unset, .unset, .unset, .unset, .unset] [(.ref s0), (.ref t0)])) rfl (hb hby d1_6) (n := 20) (by decide) (by decide) (by decide) (by decide)
  have f3 := E_t0.ext E2
  have f4 := F_state_t0.ext E2
  have f5 := F_transition_t0.ext E2
  have f6 := E_s0.ext E2
  have f7 := V_s0.ext E2
  have f8 := V_s1.ext E2
  have K2 : Keep h0 h2 [t0] := (Keep.refl h0 [t0]).ext E2
  have Zs2 := Nat.le_trans Z0 E2.1
  have hk2 := Nat.le_trans hk0 E2.1
  obtain ⟨_, _, ⟨T9, L9, k9, n9⟩, -, X9, ⟨Lc9, hQ9, lq9, yq9, zq9⟩, st9⟩ := Jvm.LawKit.callS X2 hx (y := (⟨"java/util/Objects", "requireNonNull", "(Ljava/lang/Object;Ljava/lang/String;)Ljava/lang/Object;"⟩ : MethodName)) hown2 (mvT hZ2 (hw _ (List.mem_of_getElem? (i := 18) rfl))) (mvT hZ2 (hw _ (List.mem_of_getElem? (i := 19) rfl))) (mvT hZ2 (hw _ (List.mem_of_getElem? (i := 20) rfl))) (mvT hZ2 (hw _ (List.mem_of_getElem? (i := 21) rfl))) (by decide) (backOf (W := 1) (rn l Z a0 hw [] s0 a2 h2 n0 Zs2 ) hZ2 (hw _ (List.mem_of_getElem? (i := 21) rfl)) (hw _ (List.mem_of_getElem? (i := 20) rfl)) (by decide) (by decide)) (g := (mkF m 8 #[.val (.ref t0), .val (.ref s0), .val (.ref s1), .unset, .unset, .unset, .unset, .unset] [(.ref a2), (.ref s0), (.ref t0)])) rfl (by rw [hml]; rfl) (argsL := [(.ref s0), (.ref a2)]) (rest := [(.ref t0)]) (lenOf pd_0 rfl) rfl (by show 2 * 0 + _ ≤ _; exact Nat.le_of_eq rfl) (hb hby d1_8) (fun _ _ => ⟨rfl, e2, (by decide : 2 + 0 ≤ _), (by decide : 24 + 0 ≤ _)⟩)
  dsimp only [Pt.U, Pt.locs, Pt.cells, Pt.slots] at X9 lq9 yq9 zq9 st9 hQ9
  rw [lq9, yq9, zq9] at X9
  obtain ⟨rfl, N9q, eh9⟩ := hQ9
  have N9 := Fr.app N0 N9q
  have e9 : T9.heap = h2 := eh9
  obtain ⟨T10, X10, e10, st10⟩ := castY X9 hx hZ2 hown2 (hw _ (List.mem_of_getElem? (i := 22) rfl)) e9 (Ins.self f6) (g := (mkF m 11 #[.val (.ref t0), .val (.ref s0), .val (.ref s1), .unset, .unset, .unset, .unset, .unset] [(.ref s0), (.ref t0)])) rfl rfl (hb hby d1_11)
  obtain ⟨T11, h11, X11, e11, W11, st11⟩ := putF X10 hx hZ2 hown2 (host := "") (Or.inl (hw _ (List.mem_of_getElem? (i := 24) rfl))) Via.refl e10 f4 f3 (Or.inr ⟨(hw _ (List.mem_of_getElem? (i := 25) rfl)), rfl, hnm⟩) (hw _ (List.mem_of_getElem? (i := 2) rfl)) (ty := (.array .double)) (by decide) rfl rfl (g := (mkF m 14 #[.val (.ref t0), .val (.ref s0), .val (.ref s1), .unset, .unset, .unset, .unset, .unset] [(.ref s0), (.ref t0)])) rfl rfl (hb hby d1_14)
  have f12 := f3.wr W11
  have f13 := f5.other W11 (Or.inr (so_RewardStructure_transition_state hw))
  have f14 := f6.wr W11
  have f15 := f7.other W11 (Ne.symm ne_t0_s0)
  have f16 := f8.other W11 (Ne.symm ne_t0_s1)
  have K11 : Keep h0 h11 [t0] := K2.wr W11 (Or.inl (List.mem_of_getElem? (i := 0) rfl))
  have Zs11 := Nat.le_trans Zs2 (Keep.of_wr W11).1
  have hk11 := Nat.le_trans hkq2 (Keep.of_wr W11).1
  have N11 := Fr.snoc X11 N9 g_t0
  have f17 : Fld Z h11 t0 "com/example/hedge/hedge/RewardStructure" "state" "[D" (.ref s0) := f4.same W11
  obtain ⟨T18, h18, X18, e18, W18, st18⟩ := putF X11 hx hZ2 hown2 (host := "") (Or.inl (hw _ (List.mem_of_getElem? (i := 26) rfl))) Via.refl e11 f13 f12 (Or.inr ⟨(hw _ (List.mem_of_getElem? (i := 27) rfl)), rfl, hnm⟩) (hw _ (List.mem_of_getElem? (i := 2) rfl)) (ty := (.array .double)) (by decide) rfl rfl (g := (mkF m 19 #[.val (.ref t0), .val (.ref s0), .val (.ref s1), .unset, .unset, .unset, .unset, .unset] [(.ref s1), (.ref t0)])) rfl rfl (hb hby d1_19)
  have f19 := f12.wr W18
  have f20 := f17.other W18 (Or.inr (so_RewardStructure_state_transition hw))
  have f21 := f14.wr W18
  have f22 := f15.other W18 (Ne.symm ne_t0_s0)
  have f23 := f16.other W18 (Ne.symm ne_t0_s1)
  have K18 : Keep h0 h18 [t0] := K11.wr W18 (Or.inl (List.mem_of_getElem? (i := 0) rfl))
  have Zs18 := Nat.le_trans Zs11 (Keep.of_wr W18).1
  have hk18 := Nat.le_trans hk11 (Keep.of_wr W18).1
  have N18 := Fr.snoc X18 N11 g_t0
  have f24 : Fld Z h18 t0 "com/example/hedge/hedge/RewardStructure" "transition" "[D" (.ref s1) := f13.same W18
  obtain ⟨cq25, Arq25, -, Sq25, Nq25, -, -⟩ := id f22
  obtain ⟨cq26, Arq26, -, Sq26, -, Hq26, -⟩ := id f22
  obtain ⟨_, _, ⟨T27, L27, k27, n27⟩, -, X27, ⟨Lc27, hQ27, lq27, yq27, zq27⟩, st27⟩ := Jvm.LawKit.callS X18 hx (y := (⟨"com/example/hedge/hedge/RewardStructure", "checkReward", "(D)D"⟩ : MethodName)) hown2 (mvT hZ2 (hw _ (List.mem_of_getElem? (i := 33) rfl))) (mvT hZ2 (hw _ (List.mem_of_getElem? (i := 34) rfl))) (mvT hZ2 (hw _ (List.mem_of_getElem? (i := 3) rfl))) (mvT hZ2 (hw _ (List.mem_of_getElem? (i := 35) rfl))) (by decide) (backOf (W := 0) (cr l Z a0 hw []  h18 n0 Zs18 ) hZ2 (hw _ (List.mem_of_getElem? (i := 35) rfl)) (hw _ (List.mem_of_getElem? (i := 3) rfl)) (by decide) (by decide)) (g := (mkF m 46 #[.val (.ref t0), .val (.ref s0), .val (.ref s1), .val (.ref s0), .val (.int nq), .val (.int (0 : Int32)), .val (.double (0 : UInt64)), .second] [(.double (0 : UInt64))])) rfl (by rw [hml]; rfl) (argsL := [(.double (0 : UInt64))]) (rest := []) (lenOf pd_1 rfl) rfl (by show 2 * 0 + _ ≤ _; exact Nat.le_of_eq rfl) (hb hby d1_46) (fun _ _ => ⟨rfl, e18, (by decide : 2 + 0 ≤ _), (by decide : 24 + 0 ≤ _)⟩)
  dsimp only [Pt.U, Pt.locs, Pt.cells, Pt.slots] at X27 lq27 yq27 zq27 st27 hQ27
  rw [lq27, yq27, zq27] at X27
  obtain ⟨rfl, N27q, eh27⟩ := hQ27
  have N27 := Fr.app N18 N27q
  have e27 : T27.heap = h18 := eh27
  obtain ⟨cq28, Arq28, -, Sq28, -, Hq28, -⟩ := id f22
  obtain ⟨_, _, ⟨T29, L29, k29, n29⟩, -, X29, ⟨Lc29, hQ29, lq29, yq29, zq29⟩, st29⟩ := Jvm.LawKit.callS X27 hx (y := (⟨"com/example/hedge/hedge/RewardStructure", "checkReward", "(D)D"⟩ : MethodName)) hown2 (mvT hZ2 (hw _ (List.mem_of_getElem? (i := 33) rfl))) (mvT hZ2 (hw _ (List.mem_of_getElem? (i := 34) rfl))) (mvT hZ2 (hw _ (List.mem_of_getElem? (i := 3) rfl))) (mvT hZ2 (hw _ (List.mem_of_getElem? (i := 35) rfl))) (by decide) (backOf (W := 0) (cr l Z a0 hw []  h18 n0 Zs18 ) hZ2 (hw _ (List.mem_of_getElem? (i := 35) rfl)) (hw _ (List.mem_of_getElem? (i := 3) rfl)) (by decide) (by decide)) (g := (mkF m 46 #[.val (.ref t0), .val (.ref s0), .val (.ref s1), .val (.ref s0), .val (.int nq), .val (.int (1 : Int32)), .val (.double (0 : UInt64)), .second] [(.double (0 : UInt64))])) rfl (by rw [hml]; rfl) (argsL := [(.double (0 : UInt64))]) (rest := []) (lenOf pd_1 rfl) rfl (by show 2 * 0 + _ ≤ _; exact Nat.le_of_eq rfl) (hb hby d1_46) (fun _ _ => ⟨rfl, e27, (by decide : 2 + 0 ≤ _), (by decide : 24 + 0 ≤ _)⟩)
  dsimp only [Pt.U, Pt.locs, Pt.cells, Pt.slots] at X29 lq29 yq29 zq29 st29 hQ29
  rw [lq29, yq29, zq29] at X29
  obtain ⟨rfl, N29q, eh29⟩ := hQ29
  have N29 := Fr.app N27 N29q
  have e29 : T29.heap = h18 := eh29
  obtain ⟨cq30, Arq30, -, Sq30, -, Hq30, -⟩ := id f22
  obtain ⟨_, _, ⟨T31, L31, k31, n31⟩, -, X31, ⟨Lc31, hQ31, lq31, yq31, zq31⟩, st31⟩ := Jvm.LawKit.callS X29 hx (y := (⟨"com/example/hedge/hedge/RewardStructure", "checkReward", "(D)D"⟩ : MethodName)) hown2 (mvT hZ2 (hw _ (List.mem_of_getElem? (i := 33) rfl))) (mvT hZ2 (hw _ (List.mem_of_getElem? (i := 34) rfl))) (mvT hZ2 (hw _ (List.mem_of_getElem? (i := 3) rfl))) (mvT hZ2 (hw _ (List.mem_of_getElem? (i := 35) rfl))) (by decide) (backOf (W := 0) (cr l Z a0 hw []  h18 n0 Zs18 ) hZ2 (hw _ (List.mem_of_getElem? (i := 35) rfl)) (hw _ (List.mem_of_getElem? (i := 3) rfl)) (by decide) (by decide)) (g := (mkF m 46 #[.val (.ref t0), .val (.ref s0), .val (.ref s1), .val (.ref s0), .val (.int nq), .val (.int (2 : Int32)), .val (.double (0 : UInt64)), .second] [(.double (0 : UInt64))])) rfl (by rw [hml]; rfl) (argsL := [(.double (0 : UInt64))]) (rest := []) (lenOf pd_1 rfl) rfl (by show 2 * 0 + _ ≤ _; exact Nat.le_of_eq rfl) (hb hby d1_46) (fun _ _ => ⟨rfl, e29, (by decide : 2 + 0 ≤ _), (by decide : 24 + 0 ≤ _)⟩)
  dsimp only [Pt.U, Pt.locs, Pt.cells, Pt.slots] at X31 lq31 yq31 zq31 st31 hQ31
  rw [lq31, yq31, zq31] at X31
  obtain ⟨rfl, N31q, eh31⟩ := hQ31
  have N31 := Fr.app N29 N31q
  have e31 : T31.heap = h18 := eh31
  obtain ⟨cq32, Arq32, -, Sq32, Nq32, -, -⟩ := id f23
  obtain ⟨cq33, Arq33, -, Sq33, -, Hq33, -⟩ := id f23
  obtain ⟨_, _, ⟨T34, L34, k34, n34⟩, -, X34, ⟨Lc34, hQ34, lq34, yq34, zq34⟩, st34⟩ := Jvm.LawKit.callS X31 hx (y := (⟨"com/example/hedge/hedge/RewardStructure", "checkReward", "(D)D"⟩ : MethodName)) hown2 (mvT hZ2 (hw _ (List.mem_of_getElem? (i := 33) rfl))) (mvT hZ2 (hw _ (List.mem_of_getElem? (i := 34) rfl))) (mvT hZ2 (hw _ (List.mem_of_getElem? (i := 3) rfl))) (mvT hZ2 (hw _ (List.mem_of_getElem? (i := 35) rfl))) (by decide) (backOf (W := 0) (cr l Z a0 hw []  h18 n0 Zs18 ) hZ2 (hw _ (List.mem_of_getElem? (i := 35) rfl)) (hw _ (List.mem_of_getElem? (i := 3) rfl)) (by decide) (by decide)) (g := (mkF m 84 #[.val (.ref t0), .val (.ref s0), .val (.ref s1), .val (.ref s1), .val (.int mq), .val (.int (0 : Int32)), .val (.double (0 : UInt64)), .second] [(.double (0 : UInt64))])) rfl (by rw [hml]; rfl) (argsL := [(.double (0 : UInt64))]) (rest := []) (lenOf pd_1 rfl) rfl (by show 2 * 0 + _ ≤ _; exact Nat.le_of_eq rfl) (hb hby d1_84) (fun _ _ => ⟨rfl, e31, (by decide : 2 + 0 ≤ _), (by decide : 24 + 0 ≤ _)⟩)
  dsimp only [Pt.U, Pt.locs, Pt.cells, Pt.slots] at X34 lq34 yq34 zq34 st34 hQ34
  rw [lq34, yq34, zq34] at X34
  obtain ⟨rfl, N34q, eh34⟩ := hQ34
  have N34 := Fr.app N31 N34q
  have e34 : T34.heap = h18 := eh34
  obtain ⟨fs, hr, hrun, hended, hRW⟩ := X34.leaveW hS2 (by rw [e34]; exact hk18) (v := none) (fun _ => rfl)
  refine ⟨_, _, pre0 _ ?_, hrun, hended, _, _, rfl, ?_, ⟨_, rfl⟩, hRW.2.1, hRW.2.2.1, hRW.2.2.2.mono (by decide) (by decide)⟩
  · show Steps p.tables e below (s₁.setTop (mkF m 0 #[.val (.ref t0), .val (.ref s0), .val (.ref s1), .unset, .unset, .unset, .unset, .unset] [])) _
    refine XS.aloadN X0.here hx rfl (hb hby d1_0) rfl rfl ?_
    refine st1 _ ?_
    show Steps p.tables e below (T1.setTop (mkF m 4 #[.val (.ref t0), .val (.ref s0), .val (.ref s1), .unset, .unset, .unset, .unset, .unset] [])) _
    refine XS.aloadN X1.here hx rfl (hb hby d1_4) rfl rfl ?_
    refine XS.aloadN X1.here hx rfl (hb hby d1_5) rfl rfl ?_
    refine st2 _ ?_
    show Steps p.tables e below (T2.setTop (mkF m 8 #[.val (.ref t0), .val (.ref s0), .val (.ref s1), .unset, .unset, .unset, .unset, .unset] [(.ref a2), (.ref s0), (.ref t0)])) _
    refine st9 _ ?_
    show Steps p.tables e below (T9.setTop (mkF m 11 #[.val (.ref t0), .val (.ref s0), .val (.ref s1), .unset, .unset, .unset, .unset, .unset] [(.ref s0), (.ref t0)])) _
    refine st10 _ ?_
    show Steps p.tables e below (T10.setTop (mkF m 14 #[.val (.ref t0), .val (.ref s0), .val (.ref s1), .unset, .unset, .unset, .unset, .unset] [(.ref s0), (.ref t0)])) _
    refine st11 _ ?_
    show Steps p.tables e below (T11.setTop (mkF m 17 #[.val (.ref t0), .val (.ref s0), .val (.ref s1), .unset, .unset, .unset, .unset, .unset] [])) _
    refine XS.aloadN X11.here hx rfl (hb hby d1_17) rfl rfl ?_
    refine XS.aloadN X11.here hx rfl (hb hby d1_18) rfl rfl ?_
    refine st18 _ ?_
    show Steps p.tables e below (T18.setTop (mkF m 22 #[.val (.ref t0), .val (.ref s0), .val (.ref s1), .unset, .unset, .unset, .unset, .unset] [])) _
    refine XS.aloadN X18.here hx rfl (hb hby d1_22) rfl rfl ?_
    refine XS.astoreN X18.here hx rfl (hb hby d1_23) rfl rfl (l' := #[.val (.ref t0), .val (.ref s0), .val (.ref s1), .val (.ref s0), .unset, .unset, .unset, .unset]) rfl ?_
    refine XS.aloadN X18.here hx rfl (hb hby d1_24) rfl rfl ?_
    refine X18.arraylength hx (by rw [e18]; exact Arq25.1) (State.isArrayOf_alike hZ2.alike Arq25.2.1) (g := (mkF m 25 #[.val (.ref t0), .val (.ref s0), .val (.ref s1), .val (.ref s0), .unset, .unset, .unset, .unset] [(.ref s0)])) rfl rfl (hb hby d1_25) _ ?_
    rw [len_of Sq25 Nq25]
    show Steps p.tables e below (T18.setTop (mkF m 26 #[.val (.ref t0), .val (.ref s0), .val (.ref s1), .val (.ref s0), .unset, .unset, .unset, .unset] [(.int nq)])) _
    refine XS.istore X18.here hx rfl (hb hby d1_26) rfl (l' := #[.val (.ref t0), .val (.ref s0), .val (.ref s1), .val (.ref s0), .val (.int nq), .unset, .unset, .unset]) rfl ?_
    refine XS.iconst X18.here hx rfl (hb hby d1_28) ?_
    show Steps p.tables e below (T18.setTop (mkF m 29 #[.val (.ref t0), .val (.ref s0), .val (.ref s1), .val (.ref s0), .val (.int nq), .unset, .unset, .unset] [(.int (0 : Int32))])) _
    refine XS.istore X18.here hx rfl (hb hby d1_29) rfl (l' := #[.val (.ref t0), .val (.ref s0), .val (.ref s1), .val (.ref s0), .val (.int nq), .val (.int (0 : Int32)), .unset, .unset]) rfl ?_
    refine XS.iload X18.here hx rfl (hb hby d1_31) rfl ?_
    refine XS.iload X18.here hx rfl (hb hby d1_33) rfl ?_
    refine XS.icmpNo X18.here hx rfl (hb hby d1_35) rfl (tlt hc35).2.1 ?_
    refine XS.aloadN X18.here hx rfl (hb hby d1_38) rfl rfl ?_
    refine XS.iload X18.here hx rfl (hb hby d1_39) rfl ?_
    show Steps p.tables e below (T18.setTop (mkF m 41 #[.val (.ref t0), .val (.ref s0), .val (.ref s1), .val (.ref s0), .val (.int nq), .val (.int (0 : Int32)), .unset, .unset] [(.int (0 : Int32)), (.ref s0)])) _
    refine X18.daload hx (j := (0 : Int32)) (v := (.double (0 : UInt64))) (by rw [e18]; exact Arq26.1) (State.isArrayOf_alike hZ2.alike Arq26.2.1) Arq26.2.2 (inb_of Sq26 hin41) (Has.at Hq26 (inb_of Sq26 hin41) rfl) (g := (mkF m 41 #[.val (.ref t0), .val (.ref s0), .val (.ref s1), .val (.ref s0), .val (.int nq), .val (.int (0 : Int32)), .unset, .unset] [(.int (0 : Int32)), (.ref s0)])) rfl rfl (hb hby d1_41) _ ?_
    show Steps p.tables e below (T18.setTop (mkF m 42 #[.val (.ref t0), .val (.ref s0), .val (.ref s1), .val (.ref s0), .val (.int nq), .val (.int (0 : Int32)), .unset, .unset] [(.double (0 : UInt64))])) _
    refine XS.dstore X18.here hx rfl (hb hby d1_42) rfl (l' := #[.val (.ref t0), .val (.ref s0), .val (.ref s1), .val (.ref s0), .val (.int nq), .val (.int (0 : Int32)), .val (.double (0 : UInt64)), .second]) rfl ?_
    refine XS.dload X18.here hx rfl (hb hby d1_44) rfl ?_
    refine st27 _ ?_
    show Steps p.tables e below (T27.setTop (mkF m 49 #[.val (.ref t0), .val (.ref s0), .val (.ref s1), .val (.ref s0), .val (.int nq), .val (.int (0 : Int32)), .val (.double (0 : UInt64)), .second] [(.double (0 : UInt64))])) _
    jvm_step X27.here [X27.here.top, hx, (hb hby d1_49), Value.category]
    show Steps p.tables e below (T27.setTop (mkF m 50 #[.val (.ref t0), .val (.ref s0), .val (.ref s1), .val (.ref s0), .val (.int nq), .val (.int (0 : Int32)), .val (.double (0 : UInt64)), .second] [])) _
    refine XS.iinc X27.here hx rfl (hb hby d1_50) rfl (l' := #[.val (.ref t0), .val (.ref s0), .val (.ref s1), .val (.ref s0), .val (.int nq), .val (.int ((0 : Int32) + (1 : Int32))), .val (.double (0 : UInt64)), .second]) rfl ?_
    show Steps p.tables e below (T27.setTop (mkF m 53 #[.val (.ref t0), .val (.ref s0), .val (.ref s1), .val (.ref s0), .val (.int nq), .val (.int ((0 : Int32) + (1 : Int32))), .val (.double (0 : UInt64)), .second] [])) _
    rw [show ((0 : Int32) + (1 : Int32)) = (1 : Int32) by decide]
    show Steps p.tables e below (T27.setTop (mkF m 53 #[.val (.ref t0), .val (.ref s0), .val (.ref s1), .val (.ref s0), .val (.int nq), .val (.int (1 : Int32)), .val (.double (0 : UInt64)), .second] [])) _
    refine XS.goto X27.here hx rfl (pc0 := 53) (pc' := 31) rfl (hb hby d1_53) (by decide) (by decide) ?_
    refine XS.iload X27.here hx rfl (hb hby d1_31) rfl ?_
    refine XS.iload X27.here hx rfl (hb hby d1_33) rfl ?_
    refine XS.icmpNo X27.here hx rfl (hb hby d1_35) rfl (tlt hc35_1).2.1 ?_
    refine XS.aloadN X27.here hx rfl (hb hby d1_38) rfl rfl ?_
    show Steps p.tables e below (T27.setTop (mkF m 39 #[.val (.ref t0), .val (.ref s0), .val (.ref s1), .val (.ref s0), .val (.int nq), .val (.int (1 : Int32)), .val (.double (0 : UInt64)), .second] [(.ref s0)])) _
    refine XS.iload X27.here hx rfl (hb hby d1_39) rfl ?_
    refine X27.daload hx (j := (1 : Int32)) (v := (.double (0 : UInt64))) (by rw [e27]; exact Arq28.1) (State.isArrayOf_alike hZ2.alike Arq28.2.1) Arq28.2.2 (inb_of Sq28 hin41_1) (Has.at Hq28 (inb_of Sq28 hin41_1) rfl) (g := (mkF m 41 #[.val (.ref t0), .val (.ref s0), .val (.ref s1), .val (.ref s0), .val (.int nq), .val (.int (1 : Int32)), .val (.double (0 : UInt64)), .second] [(.int (1 : Int32)), (.ref s0)])) rfl rfl (hb hby d1_41) _ ?_
    show Steps p.tables e below (T27.setTop (mkF m 42 #[.val (.ref t0), .val (.ref s0), .val (.ref s1), .val (.ref s0), .val (.int nq), .val (.int (1 : Int32)), .val (.double (0 : UInt64)), .second] [(.double (0 : UInt64))])) _
    refine XS.dstore X27.here hx rfl (hb hby d1_42) rfl (l' := #[.val (.ref t0), .val (.ref s0), .val (.ref s1), .val (.ref s0), .val (.int nq), .val (.int (1 : Int32)), .val (.double (0 : UInt64)), .second]) rfl ?_
    refine XS.dload X27.here hx rfl (hb hby d1_44) rfl ?_
    refine st29 _ ?_
    show Steps p.tables e below (T29.setTop (mkF m 49 #[.val (.ref t0), .val (.ref s0), .val (.ref s1), .val (.ref s0), .val (.int nq), .val (.int (1 : Int32)), .val (.double (0 : UInt64)), .second] [(.double (0 : UInt64))])) _
    jvm_step X29.here [X29.here.top, hx, (hb hby d1_49), Value.category]
    show Steps p.tables e below (T29.setTop (mkF m 50 #[.val (.ref t0), .val (.ref s0), .val (.ref s1), .val (.ref s0), .val (.int nq), .val (.int (1 : Int32)), .val (.double (0 : UInt64)), .second] [])) _
    refine XS.iinc X29.here hx rfl (hb hby d1_50) rfl (l' := #[.val (.ref t0), .val (.ref s0), .val (.ref s1), .val (.ref s0), .val (.int nq), .val (.int ((1 : Int32) + (1 : Int32))), .val (.double (0 : UInt64)), .second]) rfl ?_
    show Steps p.tables e below (T29.setTop (mkF m 53 #[.val (.ref t0), .val (.ref s0), .val (.ref s1), .val (.ref s0), .val (.int nq), .val (.int ((1 : Int32) + (1 : Int32))), .val (.double (0 : UInt64)), .second] [])) _
    rw [show ((1 : Int32) + (1 : Int32)) = (2 : Int32) by decide]
    show Steps p.tables e below (T29.setTop (mkF m 53 #[.val (.ref t0), .val (.ref s0), .val (.ref s1), .val (.ref s0), .val (.int nq), .val (.int (2 : Int32)), .val (.double (0 : UInt64)), .second] [])) _
    refine XS.goto X29.here hx rfl (pc0 := 53) (pc' := 31) rfl (hb hby d1_53) (by decide) (by decide) ?_
    refine XS.iload X29.here hx rfl (hb hby d1_31) rfl ?_
    refine XS.iload X29.here hx rfl (hb hby d1_33) rfl ?_
    refine XS.icmpNo X29.here hx rfl (hb hby d1_35) rfl (tlt hc35_2).2.1 ?_
    show Steps p.tables e below (T29.setTop (mkF m 38 #[.val (.ref t0), .val (.ref s0), .val (.ref s1), .val (.ref s0), .val (.int nq), .val (.int (2 : Int32)), .val (.double (0 : UInt64)), .second] [])) _
    refine XS.aloadN X29.here hx rfl (hb hby d1_38) rfl rfl ?_
    refine XS.iload X29.here hx rfl (hb hby d1_39) rfl ?_
    refine X29.daload hx (j := (2 : Int32)) (v := (.double (0 : UInt64))) (by rw [e29]; exact Arq30.1) (State.isArrayOf_alike hZ2.alike Arq30.2.1) Arq30.2.2 (inb_of Sq30 hin41_2) (Has.at Hq30 (inb_of Sq30 hin41_2) rfl) (g := (mkF m 41 #[.val (.ref t0), .val (.ref s0), .val (.ref s1), .val (.ref s0), .val (.int nq), .val (.int (2 : Int32)), .val (.double (0 : UInt64)), .second] [(.int (2 : Int32)), (.ref s0)])) rfl rfl (hb hby d1_41) _ ?_
    show Steps p.tables e below (T29.setTop (mkF m 42 #[.val (.ref t0), .val (.ref s0), .val (.ref s1), .val (.ref s0), .val (.int nq), .val (.int (2 : Int32)), .val (.double (0 : UInt64)), .second] [(.double (0 : UInt64))])) _
    refine XS.dstore X29.here hx rfl (hb hby d1_42) rfl (l' := #[.val (.ref t0), .val (.ref s0), .val (.ref s1), .val (.ref s0), .val (.int nq), .val (.int (2 : Int32)), .val (.double (0 : UInt64)), .second]) rfl ?_
    refine XS.dload X29.here hx rfl (hb hby d1_44) rfl ?_
    refine st31 _ ?_
    show Steps p.tables e below (T31.setTop (mkF m 49 #[.val (.ref t0), .val (.ref s0), .val (.ref s1), .val (.ref s0), .val (.int nq), .val (.int (2 : Int32)), .val (.double (0 : UInt64)), .second] [(.double (0 : UInt64))])) _
    jvm_step X31.here [X31.here.top, hx, (hb hby d1_49), Value.category]
    show Steps p.tables e below (T31.setTop (mkF m 50 #[.val (.ref t0), .val (.ref s0), .val (.ref s1), .val (.ref s0), .val (.int nq), .val (.int (2 : Int32)), .val (.double (0 : UInt64)), .second] [])) _
    refine XS.iinc X31.here hx rfl (hb hby d1_50) rfl (l' := #[.val (.ref t0), .val (.ref s0), .val (.ref s1), .val (.ref s0), .val (.int nq), .val (.int ((2 : Int32) + (1 : Int32))), .val (.double (0 : UInt64)), .second]) rfl ?_
    show Steps p.tables e below (T31.setTop (mkF m 53 #[.val (.ref t0), .val (.ref s0), .val (.ref s1), .val (.ref s0), .val (.int nq), .val (.int ((2 : Int32) + (1 : Int32))), .val (.double (0 : UInt64)), .second] [])) _
    rw [show ((2 : Int32) + (1 : Int32)) = (3 : Int32) by decide]
    show Steps p.tables e below (T31.setTop (mkF m 53 #[.val (.ref t0), .val (.ref s0), .val (.ref s1), .val (.ref s0), .val (.int nq), .val (.int (3 : Int32)), .val (.double (0 : UInt64)), .second] [])) _
    refine XS.goto X31.here hx rfl (pc0 := 53) (pc' := 31) rfl (hb hby d1_53) (by decide) (by decide) ?_
    refine XS.iload X31.here hx rfl (hb hby d1_31) rfl ?_
    refine XS.iload X31.here hx rfl (hb hby d1_33) rfl ?_
    show Steps p.tables e below (T31.setTop (mkF m 35 #[.val (.ref t0), .val (.ref s0), .val (.ref s1), .val (.ref s0), .val (.int nq), .val (.int (3 : Int32)), .val (.double (0 : UInt64)), .second] [(.int nq), (.int (3 : Int32))])) _
    refine XS.icmpYes X31.here hx rfl (pc0 := 35) (pc' := 56) rfl (hb hby d1_35) rfl (flt hc35_3).2.1 (by decide) (by decide) ?_
    refine XS.aloadN X31.here hx rfl (hb hby d1_56) rfl rfl ?_
    refine XS.ifnullNo X31.here hx rfl (hb hby d1_57) rfl ?_
    refine XS.aloadN X31.here hx rfl (hb hby d1_60) rfl rfl ?_
    refine XS.astoreN X31.here hx rfl (hb hby d1_61) rfl rfl (l' := #[.val (.ref t0), .val (.ref s0), .val (.ref s1), .val (.ref s1), .val (.int nq), .val (.int (3 : Int32)), .val (.double (0 : UInt64)), .second]) rfl ?_
    refine XS.aloadN X31.here hx rfl (hb hby d1_62) rfl rfl ?_
    show Steps p.tables e below (T31.setTop (mkF m 63 #[.val (.ref t0), .val (.ref s0), .val (.ref s1), .val (.ref s1), .val (.int nq), .val (.int (3 : Int32)), .val (.double (0 : UInt64)), .second] [(.ref s1)])) _
    refine X31.arraylength hx (by rw [e31]; exact Arq32.1) (State.isArrayOf_alike hZ2.alike Arq32.2.1) (g := (mkF m 63 #[.val (.ref t0), .val (.ref s0), .val (.ref s1), .val (.ref s1), .val (.int nq), .val (.int (3 : Int32)), .val (.double (0 : UInt64)), .second] [(.ref s1)])) rfl rfl (hb hby d1_63) _ ?_
    rw [len_of Sq32 Nq32]
    show Steps p.tables e below (T31.setTop (mkF m 64 #[.val (.ref t0), .val (.ref s0), .val (.ref s1), .val (.ref s1), .val (.int nq), .val (.int (3 : Int32)), .val (.double (0 : UInt64)), .second] [(.int mq)])) _
    refine XS.istore X31.here hx rfl (hb hby d1_64) rfl (l' := #[.val (.ref t0), .val (.ref s0), .val (.ref s1), .val (.ref s1), .val (.int mq), .val (.int (3 : Int32)), .val (.double (0 : UInt64)), .second]) rfl ?_
    refine XS.iconst X31.here hx rfl (hb hby d1_66) ?_
    refine XS.istore X31.here hx rfl (hb hby d1_67) rfl (l' := #[.val (.ref t0), .val (.ref s0), .val (.ref s1), .val (.ref s1), .val (.int mq), .val (.int (0 : Int32)), .val (.double (0 : UInt64)), .second]) rfl ?_
    refine XS.iload X31.here hx rfl (hb hby d1_69) rfl ?_
    refine XS.iload X31.here hx rfl (hb hby d1_71) rfl ?_
    show Steps p.tables e below (T31.setTop (mkF m 73 #[.val (.ref t0), .val (.ref s0), .val (.ref s1), .val (.ref s1), .val (.int mq), .val (.int (0 : Int32)), .val (.double (0 : UInt64)), .second] [(.int mq), (.int (0 : Int32))])) _
    refine XS.icmpNo X31.here hx rfl (hb hby d1_73) rfl (tlt hc73).2.1 ?_
    refine XS.aloadN X31.here hx rfl (hb hby d1_76) rfl rfl ?_
    refine XS.iload X31.here hx rfl (hb hby d1_77) rfl ?_
    refine X31.daload hx (j := (0 : Int32)) (v := (.double (0 : UInt64))) (by rw [e31]; exact Arq33.1) (State.isArrayOf_alike hZ2.alike Arq33.2.1) Arq33.2.2 (inb_of Sq33 hin79) (Has.at Hq33 (inb_of Sq33 hin79) rfl) (g := (mkF m 79 #[.val (.ref t0), .val (.ref s0), .val (.ref s1), .val (.ref s1), .val (.int mq), .val (.int (0 : Int32)), .val (.double (0 : UInt64)), .second] [(.int (0 : Int32)), (.ref s1)])) rfl rfl (hb hby d1_79) _ ?_
    show Steps p.tables e below (T31.setTop (mkF m 80 #[.val (.ref t0), .val (.ref s0), .val (.ref s1), .val (.ref s1), .val (.int mq), .val (.int (0 : Int32)), .val (.double (0 : UInt64)), .second] [(.double (0 : UInt64))])) _
    refine XS.dstore X31.here hx rfl (hb hby d1_80) rfl (l' := #[.val (.ref t0), .val (.ref s0), .val (.ref s1), .val (.ref s1), .val (.int mq), .val (.int (0 : Int32)), .val (.double (0 : UInt64)), .second]) rfl ?_
    refine XS.dload X31.here hx rfl (hb hby d1_82) rfl ?_
    show Steps p.tables e below (T31.setTop (mkF m 84 #[.val (.ref t0), .val (.ref s0), .val (.ref s1), .val (.ref s1), .val (.int mq), .val (.int (0 : Int32)), .val (.double (0 : UInt64)), .second] [(.double (0 : UInt64))])) _
    refine st34 _ ?_
    show Steps p.tables e below (T34.setTop (mkF m 87 #[.val (.ref t0), .val (.ref s0), .val (.ref s1), .val (.ref s1), .val (.int mq), .val (.int (0 : Int32)), .val (.double (0 : UInt64)), .second] [(.double (0 : UInt64))])) _
    jvm_step X34.here [X34.here.top, hx, (hb hby d1_87), Value.category]
    show Steps p.tables e below (T34.setTop (mkF m 88 #[.val (.ref t0), .val (.ref s0), .val (.ref s1), .val (.ref s1), .val (.int mq), .val (.int (0 : Int32)), .val (.double (0 : UInt64)), .second] [])) _
    refine XS.iinc X34.here hx rfl (hb hby d1_88) rfl (l' := #[.val (.ref t0), .val (.ref s0), .val (.ref s1), .val (.ref s1), .val (.int mq), .val (.int ((0 : Int32) + (1 : Int32))), .val (.double (0 : UInt64)), .second]) rfl ?_
    show Steps p.tables e below (T34.setTop (mkF m 91 #[.val (.ref t0), .val (.ref s0), .val (.ref s1), .val (.ref s1), .val (.int mq), .val (.int ((0 : Int32) + (1 : Int32))), .val (.double (0 : UInt64)), .second] [])) _
    rw [show ((0 : Int32) + (1 : Int32)) = (1 : Int32) by decide]
    show Steps p.tables e below (T34.setTop (mkF m 91 #[.val (.ref t0), .val (.ref s0), .val (.ref s1), .val (.ref s1), .val (.int mq), .val (.int (1 : Int32)), .val (.double (0 : UInt64)), .second] [])) _
    refine XS.goto X34.here hx rfl (pc0 := 91) (pc' := 69) rfl (hb hby d1_91) (by decide) (by decide) ?_
    refine XS.iload X34.here hx rfl (hb hby d1_69) rfl ?_
    show Steps p.tables e below (T34.setTop (mkF m 71 #[.val (.ref t0), .val (.ref s0), .val (.ref s1), .val (.ref s1), .val (.int mq), .val (.int (1 : Int32)), .val (.double (0 : UInt64)), .second] [(.int (1 : Int32))])) _
    refine XS.iload X34.here hx rfl (hb hby d1_71) rfl ?_
    refine XS.icmpYes X34.here hx rfl (pc0 := 73) (pc' := 94) rfl (hb hby d1_73) rfl (flt hc73_1).2.1 (by decide) (by decide) ?_
    exact X34.returnOut hx Bd.returns (hb hby d1_94) hr
  · show Q_ini31 Z t0 s0 s1 nq ka mq kb h0 n0 _ T34.heap _
    rw [e34]
    exact ⟨rfl, N34, K18, f19, f20, f24⟩
def Q_ini32 (Z : State) (t0 : Addr) (s0 : Addr) (s1 : Addr) (nq : Int32) (ka : ClassId) (mq : Int32) (kb : ClassId) (h0 : Heap) (n0 : Nat) (v : Option Value) (h : Heap) (L : List Loc) : Prop := v = none ∧ Fr n0 L ∧ Keep h0 h [t0] ∧ Exa Z h t0 "com/example/hedge/hedge/RewardStructure" ∧ Fld Z h t0 "com/example/hedge/hedge/RewardStructure" "state" "[D" (.ref s0) ∧ Fld Z h t0 "com/example/hedge/hedge/RewardStructure" "transition" "[D" (.ref s1)
set_option maxRecDepth 65536 in
set_option maxHeartbeats 40000000 in
theorem ini32 (l : Launch) (Z : State) (a0 : Array Value) (hw : ∀ d ∈ tables_1, d.before a0 Z = true) (ws : List Jvm.Cond) (t0 : Addr) (s0 : Addr) (s1 : Addr) (nq : Int32) (ka : ClassId) (mq : Int32) (kb : ClassId) (h0 : Heap) (n0 : Nat) (Z0 : n0 ≤ h0.size) (E_t0 : Exa Z h0 t0 "com/example/hedge/hedge/RewardStructure") (g_t0 : n0 ≤ t0) (F_state_t0 : Fld Z h0 t0 "com/example/hedge/hedge/RewardStructure" "state" "[D" .null) (F_transition_t0 : Fld Z h0 t0 "com/example/hedge/hedge/RewardStructure" "transition" "[D" .null) (E_s0 : Exa Z h0 s0 "[D") (V_s0 : Arv Z h0 s0 ka .double nq [] (.double (0 : UInt64))) (V_s1 : Arv Z h0 s1 kb .double mq [] (.double (0 : UInt64))) (ne_t0_s0 : t0 ≠ s0) (ne_t0_s1 : t0 ≠ s1) (hc35 : (0 : Int32) < nq) (hin41 : ¬ (0 : Int32) < 0 ∧ (0 : Int32) < nq) (hc35_1 : (1 : Int32) < nq) (hin41_1 : ¬ (1 : Int32) < 0 ∧ (1 : Int32) < nq) (hc35_2 : (2 : Int32) < nq) (hin41_2 : ¬ (2 : Int32) < 0 ∧ (2 : Int32) < nq) (hc35_3 : ¬ ((3 : Int32) < nq)) (hc73 : (0 : Int32) < mq) (hin79 : ¬ (0 : Int32) < 0 ∧ (0 : Int32) < mq) (hc73_1 : (1 : Int32) < mq) (hin79_1 : ¬ (1 : Int32) < 0 ∧ (1 : Int32) < mq) (hc73_2 : ¬ ((2 : Int32) < mq)) :
    MetFree l (⟨"com/example/hedge/hedge/RewardStructure", "<init>", "([D[D)V"⟩ : MethodName) (head1 (Jvm.Cond.code (⟨"com/example/hedge/hedge/RewardStructure", "<init>", "([D[D)V"⟩ : MethodName) prog_30_method_1_code 8 none :: ws) ({ frames := 1, cells := 2, slots := 24, locals := 14 } : Room)) (fun a U => a = #[(.ref t0), (.ref s0), (.ref s1)] ∧ Z.Warmed39 U.vm ∧ U.heap = h0) (fun _ _ _ _ _ => True) (fun _ U o U' => ∃ v L, o = .returned v ∧ Q_ini32 Z t0 s0 s1 nq ka mq kb h0 n0 v U'.heap L ∧ ReturnedEndW U o U' L ({ frames := 1, cells := 2, slots := 24, locals := 14 } : Room).cells ({ frames := 1, cells := 2, slots := 24, locals := 14 } : Room).slots) := by
  refine MetFree.of_bodySF (plainFor_of_name pn_com_example_hedge_hedge_RewardStructure) hisR ?_
  intro p e s m args below meth c s₁ Bd hml0 hP hK
  obtain ⟨rfl, hZ, hh⟩ := hP
  have hx := Bd.exec
  have hby := Bd.bytes
  have hml : c.maxLocals = 8 := hml0
  have hown : s.vm.findClass "com/example/hedge/hedge/RewardStructure" = some m.cls := findClass_of_methodNamed Bd.named
  have hnm := (name_of_methodNamed Bd.named Bd.method).1
  have X0 : Stand p l e ({ frames := 1, cells := 2, slots := 24, locals := 14 } : Room) s m #[(.ref t0), (.ref s0), (.ref s1)] below meth c s₁ [] 0 0 := Stand.of_body Bd
  have e0 : s₁.heap = h0 := by rw [← hh, Bd.state]; rfl
  have N0 := Fr.nil n0
  have pre0 : ∀ t, Steps p.tables e below (s₁.setTop (mkF m 0 #[.val (.ref t0), .val (.ref s0), .val (.ref s1), .unset, .unset, .unset, .unset, .unset] [])) t → Steps p.tables e below (s₁.setTop (entryFrame m #[(.ref t0), (.ref s0), (.ref s1)] 8)) t := fun t k => castTop (ef_1_RRR m t0 s0 s1) k
  obtain ⟨vm0, k00, X0, hS0, hk0, hZ0, hown0⟩ := own_W0 X0 e0 hZ hown
  obtain ⟨T1, X1, e1, st1⟩ := initO X0 hx hZ0 hown0 (hw _ (List.mem_of_getElem? (i := 7) rfl)) (hw _ (List.mem_of_getElem? (i := 8) rfl)) (hw _ (List.mem_of_getElem? (i := 9) rfl)) e0 (g := (mkF m 1 #[.val (.ref t0), .val (.ref s0), .val (.ref s1), .unset, .unset, .unset, .unset, .unset] [(.ref t0)])) rfl (by rw [hml]; rfl) rfl (hb hby d1_1) (by decide) (W := 0) (by show 2 * 0 + _ ≤ _; exact Nat.le_of_eq rfl) (by decide)
  obtain ⟨a2, T2, h2, kq2, X2, e2, E2, hS2, hkq2, hZ2, hown2, st2⟩ := ldcS X1 hx hZ0 hown0 (hw _ (List.mem_of_getElem? (i := 10) rfl)) (own_satoms hw) e1 hS0 hk0 (g := (mkF m 6 #[.val (.ref t0), .val (.ref s0), .val (.ref s1), .unset, .unset, .unset, .unset, .unset] [(.ref s0), (.ref t0)])) rfl (hb hby d1_6) (n := 20) (by decide) (by decide) (by decide) (by decide)
  have f3 := E_t0.ext E2
  have f4 := F_state_t0.ext E2
  have f5 := F_transition_t0.ext E2
  have f6 := E_s0.ext E2
  have f7 := V_s0.ext E2
  have f8 := V_s1.ext E2
  have K2 : Keep h0 h2 [t0] := (Keep.refl h0 [t0]).ext E2
  have Zs2 := Nat.le_trans Z0 E2.1
  have hk2 := Nat.le_trans hk0 E2.1
  obtain ⟨_, _, ⟨T9, L9, k9, n9⟩, -, X9, ⟨Lc9, hQ9, lq9, yq9, zq9⟩, st9⟩ := Jvm.LawKit.callS X2 hx (y := (⟨"java/util/Objects", "requireNonNull", "(Ljava/lang/Object;Ljava/lang/String;)Ljava/lang/Object;"⟩ : MethodName)) hown2 (mvT hZ2 (hw _ (List.mem_of_getElem? (i := 18) rfl))) (mvT hZ2 (hw _ (List.mem_of_getElem? (i := 19) rfl))) (mvT hZ2 (hw _ (List.mem_of_getElem? (i := 20) rfl))) (mvT hZ2 (hw _ (List.mem_of_getElem? (i := 21) rfl))) (by decide) (backOf (W := 1) (rn l Z a0 hw [] s0 a2 h2 n0 Zs2 ) hZ2 (hw _ (List.mem_of_getElem? (i := 21) rfl)) (hw _ (List.mem_of_getElem? (i := 20) rfl)) (by decide) (by decide)) (g := (mkF m 8 #[.val (.ref t0), .val (.ref s0), .val (.ref s1), .unset, .unset, .unset, .unset, .unset] [(.ref a2), (.ref s0), (.ref t0)])) rfl (by rw [hml]; rfl) (argsL := [(.ref s0), (.ref a2)]) (rest := [(.ref t0)]) (lenOf pd_0 rfl) rfl (by show 2 * 0 + _ ≤ _; exact Nat.le_of_eq rfl) (hb hby d1_8) (fun _ _ => ⟨rfl, e2, (by decide : 2 + 0 ≤ _), (by decide : 24 + 0 ≤ _)⟩)
  dsimp only [Pt.U, Pt.locs, Pt.cells, Pt.slots] at X9 lq9 yq9 zq9 st9 hQ9
  rw [lq9, yq9, zq9] at X9
  obtain ⟨rfl, N9q, eh9⟩ := hQ9
  have N9 := Fr.app N0 N9q
  have e9 : T9.heap = h2 := eh9
  obtain ⟨T10, X10, e10, st10⟩ := castY X9 hx hZ2 hown2 (hw _ (List.mem_of_getElem? (i := 22) rfl)) e9 (Ins.self f6) (g := (mkF m 11 #[.val (.ref t0), .val (.ref s0), .val (.ref s1), .unset, .unset, .unset, .unset, .unset] [(.ref s0), (.ref t0)])) rfl rfl (hb hby d1_11)
  obtain ⟨T11, h11, X11, e11, W11, st11⟩ := putF X10 hx hZ2 hown2 (host := "") (Or.inl (hw _ (List.mem_of_getElem? (i := 24) rfl))) Via.refl e10 f4 f3 (Or.inr ⟨(hw _ (List.mem_of_getElem? (i := 25) rfl)), rfl, hnm⟩) (hw _ (List.mem_of_getElem? (i := 2) rfl)) (ty := (.array .double)) (by decide) rfl rfl (g := (mkF m 14 #[.val (.ref t0), .val (.ref s0), .val (.ref s1), .unset, .unset, .unset, .unset, .unset] [(.ref s0), (.ref t0)])) rfl rfl (hb hby d1_14)
  have f12 := f3.wr W11
  have f13 := f5.other W11 (Or.inr (so_RewardStructure_transition_state hw))
  have f14 := f6.wr W11
  have f15 := f7.other W11 (Ne.symm ne_t0_s0)
  have f16 := f8.other W11 (Ne.symm ne_t0_s1)
  have K11 : Keep h0 h11 [t0] := K2.wr W11 (Or.inl (List.mem_of_getElem? (i := 0) rfl))
  have Zs11 := Nat.le_trans Zs2 (Keep.of_wr W11).1
  have hk11 := Nat.le_trans hkq2 (Keep.of_wr W11).1
  have N11 := Fr.snoc X11 N9 g_t0
  have f17 : Fld Z h11 t0 "com/example/hedge/hedge/RewardStructure" "state" "[D" (.ref s0) := f4.same W11
  obtain ⟨T18, h18, X18, e18, W18, st18⟩ := putF X11 hx hZ2 hown2 (host := "") (Or.inl (hw _ (List.mem_of_getElem? (i := 26) rfl))) Via.refl e11 f13 f12 (Or.inr ⟨(hw _ (List.mem_of_getElem? (i := 27) rfl)), rfl, hnm⟩) (hw _ (List.mem_of_getElem? (i := 2) rfl)) (ty := (.array .double)) (by decide) rfl rfl (g := (mkF m 19 #[.val (.ref t0), .val (.ref s0), .val (.ref s1), .unset, .unset, .unset, .unset, .unset] [(.ref s1), (.ref t0)])) rfl rfl (hb hby d1_19)
  have f19 := f12.wr W18
  have f20 := f17.other W18 (Or.inr (so_RewardStructure_state_transition hw))
  have f21 := f14.wr W18
  have f22 := f15.other W18 (Ne.symm ne_t0_s0)
  have f23 := f16.other W18 (Ne.symm ne_t0_s1)
  have K18 : Keep h0 h18 [t0] := K11.wr W18 (Or.inl (List.mem_of_getElem? (i := 0) rfl))
  have Zs18 := Nat.le_trans Zs11 (Keep.of_wr W18).1
  have hk18 := Nat.le_trans hk11 (Keep.of_wr W18).1
  have N18 := Fr.snoc X18 N11 g_t0
  have f24 : Fld Z h18 t0 "com/example/hedge/hedge/RewardStructure" "transition" "[D" (.ref s1) := f13.same W18
  obtain ⟨cq25, Arq25, -, Sq25, Nq25, -, -⟩ := id f22
  obtain ⟨cq26, Arq26, -, Sq26, -, Hq26, -⟩ := id f22
  obtain ⟨_, _, ⟨T27, L27, k27, n27⟩, -, X27, ⟨Lc27, hQ27, lq27, yq27, zq27⟩, st27⟩ := Jvm.LawKit.callS X18 hx (y := (⟨"com/example/hedge/hedge/RewardStructure", "checkReward", "(D)D"⟩ : MethodName)) hown2 (mvT hZ2 (hw _ (List.mem_of_getElem? (i := 33) rfl))) (mvT hZ2 (hw _ (List.mem_of_getElem? (i := 34) rfl))) (mvT hZ2 (hw _ (List.mem_of_getElem? (i := 3) rfl))) (mvT hZ2 (hw _ (List.mem_of_getElem? (i := 35) rfl))) (by decide) (backOf (W := 0) (cr l Z a0 hw []  h18 n0 Zs18 ) hZ2 (hw _ (List.mem_of_getElem? (i := 35) rfl)) (hw _ (List.mem_of_getElem? (i := 3) rfl)) (by decide) (by decide)) (g := (mkF m 46 #[.val (.ref t0), .val (.ref s0), .val (.ref s1), .val (.ref s0), .val (.int nq), .val (.int (0 : Int32)), .val (.double (0 : UInt64)), .second] [(.double (0 : UInt64))])) rfl (by rw [hml]; rfl) (argsL := [(.double (0 : UInt64))]) (rest := []) (lenOf pd_1 rfl) rfl (by show 2 * 0 + _ ≤ _; exact Nat.le_of_eq rfl) (hb hby d1_46) (fun _ _ => ⟨rfl, e18, (by decide : 2 + 0 ≤ _), (by decide : 24 + 0 ≤ _)⟩)
  dsimp only [Pt.U, Pt.locs, Pt.cells, Pt.slots] at X27 lq27 yq27 zq27 st27 hQ27
  rw [lq27, yq27, zq27] at X27
  obtain ⟨rfl, N27q, eh27⟩ := hQ27
  have N27 := Fr.app N18 N27q
  have e27 : T27.heap = h18 := eh27
  obtain ⟨cq28, Arq28, -, Sq28, -, Hq28, -⟩ := id f22
  obtain ⟨_, _, ⟨T29, L29, k29, n29⟩, -, X29, ⟨Lc29, hQ29, lq29, yq29, zq29⟩, st29⟩ := Jvm.LawKit.callS X27 hx (y := (⟨"com/example/hedge/hedge/RewardStructure", "checkReward", "(D)D"⟩ : MethodName)) hown2 (mvT hZ2 (hw _ (List.mem_of_getElem? (i := 33) rfl))) (mvT hZ2 (hw _ (List.mem_of_getElem? (i := 34) rfl))) (mvT hZ2 (hw _ (List.mem_of_getElem? (i := 3) rfl))) (mvT hZ2 (hw _ (List.mem_of_getElem? (i := 35) rfl))) (by decide) (backOf (W := 0) (cr l Z a0 hw []  h18 n0 Zs18 ) hZ2 (hw _ (List.mem_of_getElem? (i := 35) rfl)) (hw _ (List.mem_of_getElem? (i := 3) rfl)) (by decide) (by decide)) (g := (mkF m 46 #[.val (.ref t0), .val (.ref s0), .val (.ref s1), .val (.ref s0), .val (.int nq), .val (.int (1 : Int32)), .val (.double (0 : UInt64)), .second] [(.double (0 : UInt64))])) rfl (by rw [hml]; rfl) (argsL := [(.double (0 : UInt64))]) (rest := []) (lenOf pd_1 rfl) rfl (by show 2 * 0 + _ ≤ _; exact Nat.le_of_eq rfl) (hb hby d1_46) (fun _ _ => ⟨rfl, e27, (by decide : 2 + 0 ≤ _), (by decide : 24 + 0 ≤ _)⟩)
  dsimp only [Pt.U, Pt.locs, Pt.cells, Pt.slots] at X29 lq29 yq29 zq29 st29 hQ29
  rw [lq29, yq29, zq29] at X29
  obtain ⟨rfl, N29q, eh29⟩ := hQ29
  have N29 := Fr.app N27 N29q
  have e29 : T29.heap = h18 := eh29
  obtain ⟨cq30, Arq30, -, Sq30, -, Hq30, -⟩ := id f22
  obtain ⟨_, _, ⟨T31, L31, k31, n31⟩, -, X31, ⟨Lc31, hQ31, lq31, yq31, zq31⟩, st31⟩ := Jvm.LawKit.callS X29 hx (y := (⟨"com/example/hedge/hedge/RewardStructure", "checkReward", "(D)D"⟩ : MethodName)) hown2 (mvT hZ2 (hw _ (List.mem_of_getElem? (i := 33) rfl))) (mvT hZ2 (hw _ (List.mem_of_getElem? (i := 34) rfl))) (mvT hZ2 (hw _ (List.mem_of_getElem? (i := 3) rfl))) (mvT hZ2 (hw _ (List.mem_of_getElem? (i := 35) rfl))) (by decide) (backOf (W := 0) (cr l Z a0 hw []  h18 n0 Zs18 ) hZ2 (hw _ (List.mem_of_getElem? (i := 35) rfl)) (hw _ (List.mem_of_getElem? (i := 3) rfl)) (by decide) (by decide)) (g := (mkF m 46 #[.val (.ref t0), .val (.ref s0), .val (.ref s1), .val (.ref s0), .val (.int nq), .val (.int (2 : Int32)), .val (.double (0 : UInt64)), .second] [(.double (0 : UInt64))])) rfl (by rw [hml]; rfl) (argsL := [(.double (0 : UInt64))]) (rest := []) (lenOf pd_1 rfl) rfl (by show 2 * 0 + _ ≤ _; exact Nat.le_of_eq rfl) (hb hby d1_46) (fun _ _ => ⟨rfl, e29, (by decide : 2 + 0 ≤ _), (by decide : 24 + 0 ≤ _)⟩)
  dsimp only [Pt.U, Pt.locs, Pt.cells, Pt.slots] at X31 lq31 yq31 zq31 st31 hQ31
  rw [lq31, yq31, zq31] at X31
  obtain ⟨rfl, N31q, eh31⟩ := hQ31
  have N31 := Fr.app N29 N31q
  have e31 : T31.heap = h18 := eh31
  obtain ⟨cq32, Arq32, -, Sq32, Nq32, -, -⟩ := id f23
  obtain ⟨cq33, Arq33, -, Sq33, -, Hq33, -⟩ := id f23
  obtain ⟨_, _, ⟨T34, L34, k34, n34⟩, -, X34, ⟨Lc34, hQ34, lq34, yq34, zq34⟩, st34⟩ := Jvm.LawKit.callS X31 hx (y := (⟨"com/example/hedge/hedge/RewardStructure", "checkReward", "(D)D"⟩ : MethodName)) hown2 (mvT hZ2 (hw _ (List.mem_of_getElem? (i := 33) rfl))) (mvT hZ2 (hw _ (List.mem_of_getElem? (i := 34) rfl))) (mvT hZ2 (hw _ (List.mem_of_getElem? (i := 3) rfl))) (mvT hZ2 (hw _ (List.mem_of_getElem? (i := 35) rfl))) (by decide) (backOf (W := 0) (cr l Z a0 hw []  h18 n0 Zs18 ) hZ2 (hw _ (List.mem_of_getElem? (i := 35) rfl)) (hw _ (List.mem_of_getElem? (i := 3) rfl)) (by decide) (by decide)) (g := (mkF m 84 #[.val (.ref t0), .val (.ref s0), .val (.ref s1), .val (.ref s1), .val (.int mq), .val (.int (0 : Int32)), .val (.double (0 : UInt64)), .second] [(.double (0 : UInt64))])) rfl (by rw [hml]; rfl) (argsL := [(.double (0 : UInt64))]) (rest := []) (lenOf pd_1 rfl) rfl (by show 2 * 0 + _ ≤ _; exact Nat.le_of_eq rfl) (hb hby d1_84) (fun _ _ => ⟨rfl, e31, (by decide : 2 + 0 ≤ _), (by decide : 24 + 0 ≤ _)⟩)
  dsimp only [Pt.U, Pt.locs, Pt.cells, Pt.slots] at X34 lq34 yq34 zq34 st34 hQ34
  rw [lq34, yq34, zq34] at X34
  obtain ⟨rfl, N34q, eh34⟩ := hQ34
  have N34 := Fr.app N31 N34q
  have e34 : T34.heap = h18 := eh34
  obtain ⟨cq35, Arq35, -, Sq35, -, Hq35, -⟩ := id f23
  obtain ⟨_, _, ⟨T36, L36, k36, n36⟩, -, X36, ⟨Lc36, hQ36, lq36, yq36, zq36⟩, st36⟩ := Jvm.LawKit.callS X34 hx (y := (⟨"com/example/hedge/hedge/RewardStructure", "checkReward", "(D)D"⟩ : MethodName)) hown2 (mvT hZ2 (hw _ (List.mem_of_getElem? (i := 33) rfl))) (mvT hZ2 (hw _ (List.mem_of_getElem? (i := 34) rfl))) (mvT hZ2 (hw _ (List.mem_of_getElem? (i := 3) rfl))) (mvT hZ2 (hw _ (List.mem_of_getElem? (i := 35) rfl))) (by decide) (backOf (W := 0) (cr l Z a0 hw []  h18 n0 Zs18 ) hZ2 (hw _ (List.mem_of_getElem? (i := 35) rfl)) (hw _ (List.mem_of_getElem? (i := 3) rfl)) (by decide) (by decide)) (g := (mkF m 84 #[.val (.ref t0), .val (.ref s0), .val (.ref s1), .val (.ref s1), .val (.int mq), .val (.int (1 : Int32)), .val (.double (0 : UInt64)), .second] [(.double (0 : UInt64))])) rfl (by rw [hml]; rfl) (argsL := [(.double (0 : UInt64))]) (rest := []) (lenOf pd_1 rfl) rfl (by show 2 * 0 + _ ≤ _; exact Nat.le_of_eq rfl) (hb hby d1_84) (fun _ _ => ⟨rfl, e34, (by decide : 2 + 0 ≤ _), (by decide : 24 + 0 ≤ _)⟩)
  dsimp only [Pt.U, Pt.locs, Pt.cells, Pt.slots] at X36 lq36 yq36 zq36 st36 hQ36
  rw [lq36, yq36, zq36] at X36
  obtain ⟨rfl, N36q, eh36⟩ := hQ36
  have N36 := Fr.app N34 N36q
  have e36 : T36.heap = h18 := eh36
  obtain ⟨fs, hr, hrun, hended, hRW⟩ := X36.leaveW hS2 (by rw [e36]; exact hk18) (v := none) (fun _ => rfl)
  refine ⟨_, _, pre0 _ ?_, hrun, hended, _, _, rfl, ?_, ⟨_, rfl⟩, hRW.2.1, hRW.2.2.1, hRW.2.2.2.mono (by decide) (by decide)⟩
  · show Steps p.tables e below (s₁.setTop (mkF m 0 #[.val (.ref t0), .val (.ref s0), .val (.ref s1), .unset, .unset, .unset, .unset, .unset] [])) _
    refine XS.aloadN X0.here hx rfl (hb hby d1_0) rfl rfl ?_
    refine st1 _ ?_
    show Steps p.tables e below (T1.setTop (mkF m 4 #[.val (.ref t0), .val (.ref s0), .val (.ref s1), .unset, .unset, .unset, .unset, .unset] [])) _
    refine XS.aloadN X1.here hx rfl (hb hby d1_4) rfl rfl ?_
    refine XS.aloadN X1.here hx rfl (hb hby d1_5) rfl rfl ?_
    refine st2 _ ?_
    show Steps p.tables e below (T2.setTop (mkF m 8 #[.val (.ref t0), .val (.ref s0), .val (.ref s1), .unset, .unset, .unset, .unset, .unset] [(.ref a2), (.ref s0), (.ref t0)])) _
    refine st9 _ ?_
    show Steps p.tables e below (T9.setTop (mkF m 11 #[.val (.ref t0), .val (.ref s0), .val (.ref s1), .unset, .unset, .unset, .unset, .unset] [(.ref s0), (.ref t0)])) _
    refine st10 _ ?_
    show Steps p.tables e below (T10.setTop (mkF m 14 #[.val (.ref t0), .val (.ref s0), .val (.ref s1), .unset, .unset, .unset, .unset, .unset] [(.ref s0), (.ref t0)])) _
    refine st11 _ ?_
    show Steps p.tables e below (T11.setTop (mkF m 17 #[.val (.ref t0), .val (.ref s0), .val (.ref s1), .unset, .unset, .unset, .unset, .unset] [])) _
    refine XS.aloadN X11.here hx rfl (hb hby d1_17) rfl rfl ?_
    refine XS.aloadN X11.here hx rfl (hb hby d1_18) rfl rfl ?_
    refine st18 _ ?_
    show Steps p.tables e below (T18.setTop (mkF m 22 #[.val (.ref t0), .val (.ref s0), .val (.ref s1), .unset, .unset, .unset, .unset, .unset] [])) _
    refine XS.aloadN X18.here hx rfl (hb hby d1_22) rfl rfl ?_
    refine XS.astoreN X18.here hx rfl (hb hby d1_23) rfl rfl (l' := #[.val (.ref t0), .val (.ref s0), .val (.ref s1), .val (.ref s0), .unset, .unset, .unset, .unset]) rfl ?_
    refine XS.aloadN X18.here hx rfl (hb hby d1_24) rfl rfl ?_
    refine X18.arraylength hx (by rw [e18]; exact Arq25.1) (State.isArrayOf_alike hZ2.alike Arq25.2.1) (g := (mkF m 25 #[.val (.ref t0), .val (.ref s0), .val (.ref s1), .val (.ref s0), .unset, .unset, .unset, .unset] [(.ref s0)])) rfl rfl (hb hby d1_25) _ ?_
    rw [len_of Sq25 Nq25]
    show Steps p.tables e below (T18.setTop (mkF m 26 #[.val (.ref t0), .val (.ref s0), .val (.ref s1), .val (.ref s0), .unset, .unset, .unset, .unset] [(.int nq)])) _
    refine XS.istore X18.here hx rfl (hb hby d1_26) rfl (l' := #[.val (.ref t0), .val (.ref s0), .val (.ref s1), .val (.ref s0), .val (.int nq), .unset, .unset, .unset]) rfl ?_
    refine XS.iconst X18.here hx rfl (hb hby d1_28) ?_
    show Steps p.tables e below (T18.setTop (mkF m 29 #[.val (.ref t0), .val (.ref s0), .val (.ref s1), .val (.ref s0), .val (.int nq), .unset, .unset, .unset] [(.int (0 : Int32))])) _
    refine XS.istore X18.here hx rfl (hb hby d1_29) rfl (l' := #[.val (.ref t0), .val (.ref s0), .val (.ref s1), .val (.ref s0), .val (.int nq), .val (.int (0 : Int32)), .unset, .unset]) rfl ?_
    refine XS.iload X18.here hx rfl (hb hby d1_31) rfl ?_
    refine XS.iload X18.here hx rfl (hb hby d1_33) rfl ?_
    refine XS.icmpNo X18.here hx rfl (hb hby d1_35) rfl (tlt hc35).2.1 ?_
    refine XS.aloadN X18.here hx rfl (hb hby d1_38) rfl rfl ?_
    refine XS.iload X18.here hx rfl (hb hby d1_39) rfl ?_
    show Steps p.tables e below (T18.setTop (mkF m 41 #[.val (.ref t0), .val (.ref s0), .val (.ref s1), .val (.ref s0), .val (.int nq), .val (.int (0 : Int32)), .unset, .unset] [(.int (0 : Int32)), (.ref s0)])) _
    refine X18.daload hx (j := (0 : Int32)) (v := (.double (0 : UInt64))) (by rw [e18]; exact Arq26.1) (State.isArrayOf_alike hZ2.alike Arq26.2.1) Arq26.2.2 (inb_of Sq26 hin41) (Has.at Hq26 (inb_of Sq26 hin41) rfl) (g := (mkF m 41 #[.val (.ref t0), .val (.ref s0), .val (.ref s1), .val (.ref s0), .val (.int nq), .val (.int (0 : Int32)), .unset, .unset] [(.int (0 : Int32)), (.ref s0)])) rfl rfl (hb hby d1_41) _ ?_
    show Steps p.tables e below (T18.setTop (mkF m 42 #[.val (.ref t0), .val (.ref s0), .val (.ref s1), .val (.ref s0), .val (.int nq), .val (.int (0 : Int32)), .unset, .unset] [(.double (0 : UInt64))])) _
    refine XS.dstore X18.here hx rfl (hb hby d1_42) rfl (l' := #[.val (.ref t0), .val (.ref s0), .val (.ref s1), .val (.ref s0), .val (.int nq), .val (.int (0 : Int32)), .val (.double (0 : UInt64)), .second]) rfl ?_
    refine XS.dload X18.here hx rfl (hb hby d1_44) rfl ?_
    refine st27 _ ?_
    show Steps p.tables e below (T27.setTop (mkF m 49 #[.val (.ref t0), .val (.ref s0), .val (.ref s1), .val (.ref s0), .val (.int nq), .val (.int (0 : Int32)), .val (.double (0 : UInt64)), .second] [(.double (0 : UInt64))])) _
    jvm_step X27.here [X27.here.top, hx, (hb hby d1_49), Value.category]
    show Steps p.tables e below (T27.setTop (mkF m 50 #[.val (.ref t0), .val (.ref s0), .val (.ref s1), .val (.ref s0), .val (.int nq), .val (.int (0 : Int32)), .val (.double (0 : UInt64)), .second] [])) _
    refine XS.iinc X27.here hx rfl (hb hby d1_50) rfl (l' := #[.val (.ref t0), .val (.ref s0), .val (.ref s1), .val (.ref s0), .val (.int nq), .val (.int ((0 : Int32) + (1 : Int32))), .val (.double (0 : UInt64)), .second]) rfl ?_
    show Steps p.tables e below (T27.setTop (mkF m 53 #[.val (.ref t0), .val (.ref s0), .val (.ref s1), .val (.ref s0), .val (.int nq), .val (.int ((0 : Int32) + (1 : Int32))), .val (.double (0 : UInt64)), .second] [])) _
    rw [show ((0 : Int32) + (1 : Int32)) = (1 : Int32) by decide]
    show Steps p.tables e below (T27.setTop (mkF m 53 #[.val (.ref t0), .val (.ref s0), .val (.ref s1), .val (.ref s0), .val (.int nq), .val (.int (1 : Int32)), .val (.double (0 : UInt64)), .second] [])) _
    refine XS.goto X27.here hx rfl (pc0 := 53) (pc' := 31) rfl (hb hby d1_53) (by decide) (by decide) ?_
    refine XS.iload X27.here hx rfl (hb hby d1_31) rfl ?_
    refine XS.iload X27.here hx rfl (hb hby d1_33) rfl ?_
    refine XS.icmpNo X27.here hx rfl (hb hby d1_35) rfl (tlt hc35_1).2.1 ?_
    refine XS.aloadN X27.here hx rfl (hb hby d1_38) rfl rfl ?_
    show Steps p.tables e below (T27.setTop (mkF m 39 #[.val (.ref t0), .val (.ref s0), .val (.ref s1), .val (.ref s0), .val (.int nq), .val (.int (1 : Int32)), .val (.double (0 : UInt64)), .second] [(.ref s0)])) _
    refine XS.iload X27.here hx rfl (hb hby d1_39) rfl ?_
    refine X27.daload hx (j := (1 : Int32)) (v := (.double (0 : UInt64))) (by rw [e27]; exact Arq28.1) (State.isArrayOf_alike hZ2.alike Arq28.2.1) Arq28.2.2 (inb_of Sq28 hin41_1) (Has.at Hq28 (inb_of Sq28 hin41_1) rfl) (g := (mkF m 41 #[.val (.ref t0), .val (.ref s0), .val (.ref s1), .val (.ref s0), .val (.int nq), .val (.int (1 : Int32)), .val (.double (0 : UInt64)), .second] [(.int (1 : Int32)), (.ref s0)])) rfl rfl (hb hby d1_41) _ ?_
    show Steps p.tables e below (T27.setTop (mkF m 42 #[.val (.ref t0), .val (.ref s0), .val (.ref s1), .val (.ref s0), .val (.int nq), .val (.int (1 : Int32)), .val (.double (0 : UInt64)), .second] [(.double (0 : UInt64))])) _
    refine XS.dstore X27.here hx rfl (hb hby d1_42) rfl (l' := #[.val (.ref t0), .val (.ref s0), .val (.ref s1), .val (.ref s0), .val (.int nq), .val (.int (1 : Int32)), .val (.double (0 : UInt64)), .second]) rfl ?_
    refine XS.dload X27.here hx rfl (hb hby d1_44) rfl ?_
    refine st29 _ ?_
    show Steps p.tables e below (T29.setTop (mkF m 49 #[.val (.ref t0), .val (.ref s0), .val (.ref s1), .val (.ref s0), .val (.int nq), .val (.int (1 : Int32)), .val (.double (0 : UInt64)), .second] [(.double (0 : UInt64))])) _
    jvm_step X29.here [X29.here.top, hx, (hb hby d1_49), Value.category]
    show Steps p.tables e below (T29.setTop (mkF m 50 #[.val (.ref t0), .val (.ref s0), .val (.ref s1), .val (.ref s0), .val (.int nq), .val (.int (1 : Int32)), .val (.double (0 : UInt64)), .second] [])) _
    refine XS.iinc X29.here hx rfl (hb hby d1_50) rfl (l' := #[.val (.ref t0), .val (.ref s0), .val (.ref s1), .val (.ref s0), .val (.int nq), .val (.int ((1 : Int32) + (1 : Int32))), .val (.double (0 : UInt64)), .second]) rfl ?_
    show Steps p.tables e below (T29.setTop (mkF m 53 #[.val (.ref t0), .val (.ref s0), .val (.ref s1), .val (.ref s0), .val (.int nq), .val (.int ((1 : Int32) + (1 : Int32))), .val (.double (0 : UInt64)), .second] [])) _
    rw [show ((1 : Int32) + (1 : Int32)) = (2 : Int32) by decide]
    show Steps p.tables e below (T29.setTop (mkF m 53 #[.val (.ref t0), .val (.ref s0), .val (.ref s1), .val (.ref s0), .val (.int nq), .val (.int (2 : Int32)), .val (.double (0 : UInt64)), .second] [])) _
    refine XS.goto X29.here hx rfl (pc0 := 53) (pc' := 31) rfl (hb hby d1_53) (by decide) (by decide) ?_
    refine XS.iload X29.here hx rfl (hb hby d1_31) rfl ?_
    refine XS.iload X29.here hx rfl (hb hby d1_33) rfl ?_
    refine XS.icmpNo X29.here hx rfl (hb hby d1_35) rfl (tlt hc35_2).2.1 ?_
    show Steps p.tables e below (T29.setTop (mkF m 38 #[.val (.ref t0), .val (.ref s0), .val (.ref s1), .val (.ref s0), .val (.int nq), .val (.int (2 : Int32)), .val (.double (0 : UInt64)), .second] [])) _
    refine XS.aloadN X29.here hx rfl (hb hby d1_38) rfl rfl ?_
    refine XS.iload X29.here hx rfl (hb hby d1_39) rfl ?_
    refine X29.daload hx (j := (2 : Int32)) (v := (.double (0 : UInt64))) (by rw [e29]; exact Arq30.1) (State.isArrayOf_alike hZ2.alike Arq30.2.1) Arq30.2.2 (inb_of Sq30 hin41_2) (Has.at Hq30 (inb_of Sq30 hin41_2) rfl) (g := (mkF m 41 #[.val (.ref t0), .val (.ref s0), .val (.ref s1), .val (.ref s0), .val (.int nq), .val (.int (2 : Int32)), .val (.double (0 : UInt64)), .second] [(.int (2 : Int32)), (.ref s0)])) rfl rfl (hb hby d1_41) _ ?_
    show Steps p.tables e below (T29.setTop (mkF m 42 #[.val (.ref t0), .val (.ref s0), .val (.ref s1), .val (.ref s0), .val (.int nq), .val (.int (2 : Int32)), .val (.double (0 : UInt64)), .second] [(.double (0 : UInt64))])) _
    refine XS.dstore X29.here hx rfl (hb hby d1_42) rfl (l' := #[.val (.ref t0), .val (.ref s0), .val (.ref s1), .val (.ref s0), .val (.int nq), .val (.int (2 : Int32)), .val (.double (0 : UInt64)), .second]) rfl ?_
    refine XS.dload X29.here hx rfl (hb hby d1_44) rfl ?_
    refine st31 _ ?_
    show Steps p.tables e below (T31.setTop (mkF m 49 #[.val (.ref t0), .val (.ref s0), .val (.ref s1), .val (.ref s0), .val (.int nq), .val (.int (2 : Int32)), .val (.double (0 : UInt64)), .second] [(.double (0 : UInt64))])) _
    jvm_step X31.here [X31.here.top, hx, (hb hby d1_49), Value.category]
    show Steps p.tables e below (T31.setTop (mkF m 50 #[.val (.ref t0), .val (.ref s0), .val (.ref s1), .val (.ref s0), .val (.int nq), .val (.int (2 : Int32)), .val (.double (0 : UInt64)), .second] [])) _
    refine XS.iinc X31.here hx rfl (hb hby d1_50) rfl (l' := #[.val (.ref t0), .val (.ref s0), .val (.ref s1), .val (.ref s0), .val (.int nq), .val (.int ((2 : Int32) + (1 : Int32))), .val (.double (0 : UInt64)), .second]) rfl ?_
    show Steps p.tables e below (T31.setTop (mkF m 53 #[.val (.ref t0), .val (.ref s0), .val (.ref s1), .val (.ref s0), .val (.int nq), .val (.int ((2 : Int32) + (1 : Int32))), .val (.double (0 : UInt64)), .second] [])) _
    rw [show ((2 : Int32) + (1 : Int32)) = (3 : Int32) by decide]
    show Steps p.tables e below (T31.setTop (mkF m 53 #[.val (.ref t0), .val (.ref s0), .val (.ref s1), .val (.ref s0), .val (.int nq), .val (.int (3 : Int32)), .val (.double (0 : UInt64)), .second] [])) _
    refine XS.goto X31.here hx rfl (pc0 := 53) (pc' := 31) rfl (hb hby d1_53) (by decide) (by decide) ?_
    refine XS.iload X31.here hx rfl (hb hby d1_31) rfl ?_
    refine XS.iload X31.here hx rfl (hb hby d1_33) rfl ?_
    show Steps p.tables e below (T31.setTop (mkF m 35 #[.val (.ref t0), .val (.ref s0), .val (.ref s1), .val (.ref s0), .val (.int nq), .val (.int (3 : Int32)), .val (.double (0 : UInt64)), .second] [(.int nq), (.int (3 : Int32))])) _
    refine XS.icmpYes X31.here hx rfl (pc0 := 35) (pc' := 56) rfl (hb hby d1_35) rfl (flt hc35_3).2.1 (by decide) (by decide) ?_
    refine XS.aloadN X31.here hx rfl (hb hby d1_56) rfl rfl ?_
    refine XS.ifnullNo X31.here hx rfl (hb hby d1_57) rfl ?_
    refine XS.aloadN X31.here hx rfl (hb hby d1_60) rfl rfl ?_
    refine XS.astoreN X31.here hx rfl (hb hby d1_61) rfl rfl (l' := #[.val (.ref t0), .val (.ref s0), .val (.ref s1), .val (.ref s1), .val (.int nq), .val (.int (3 : Int32)), .val (.double (0 : UInt64)), .second]) rfl ?_
    refine XS.aloadN X31.here hx rfl (hb hby d1_62) rfl rfl ?_
    show Steps p.tables e below (T31.setTop (mkF m 63 #[.val (.ref t0), .val (.ref s0), .val (.ref s1), .val (.ref s1), .val (.int nq), .val (.int (3 : Int32)), .val (.double (0 : UInt64)), .second] [(.ref s1)])) _
    refine X31.arraylength hx (by rw [e31]; exact Arq32.1) (State.isArrayOf_alike hZ2.alike Arq32.2.1) (g := (mkF m 63 #[.val (.ref t0), .val (.ref s0), .val (.ref s1), .val (.ref s1), .val (.int nq), .val (.int (3 : Int32)), .val (.double (0 : UInt64)), .second] [(.ref s1)])) rfl rfl (hb hby d1_63) _ ?_
    rw [len_of Sq32 Nq32]
    show Steps p.tables e below (T31.setTop (mkF m 64 #[.val (.ref t0), .val (.ref s0), .val (.ref s1), .val (.ref s1), .val (.int nq), .val (.int (3 : Int32)), .val (.double (0 : UInt64)), .second] [(.int mq)])) _
    refine XS.istore X31.here hx rfl (hb hby d1_64) rfl (l' := #[.val (.ref t0), .val (.ref s0), .val (.ref s1), .val (.ref s1), .val (.int mq), .val (.int (3 : Int32)), .val (.double (0 : UInt64)), .second]) rfl ?_
    refine XS.iconst X31.here hx rfl (hb hby d1_66) ?_
    refine XS.istore X31.here hx rfl (hb hby d1_67) rfl (l' := #[.val (.ref t0), .val (.ref s0), .val (.ref s1), .val (.ref s1), .val (.int mq), .val (.int (0 : Int32)), .val (.double (0 : UInt64)), .second]) rfl ?_
    refine XS.iload X31.here hx rfl (hb hby d1_69) rfl ?_
    refine XS.iload X31.here hx rfl (hb hby d1_71) rfl ?_
    show Steps p.tables e below (T31.setTop (mkF m 73 #[.val (.ref t0), .val (.ref s0), .val (.ref s1), .val (.ref s1), .val (.int mq), .val (.int (0 : Int32)), .val (.double (0 : UInt64)), .second] [(.int mq), (.int (0 : Int32))])) _
    refine XS.icmpNo X31.here hx rfl (hb hby d1_73) rfl (tlt hc73).2.1 ?_
    refine XS.aloadN X31.here hx rfl (hb hby d1_76) rfl rfl ?_
    refine XS.iload X31.here hx rfl (hb hby d1_77) rfl ?_
    refine X31.daload hx (j := (0 : Int32)) (v := (.double (0 : UInt64))) (by rw [e31]; exact Arq33.1) (State.isArrayOf_alike hZ2.alike Arq33.2.1) Arq33.2.2 (inb_of Sq33 hin79) (Has.at Hq33 (inb_of Sq33 hin79) rfl) (g := (mkF m 79 #[.val (.ref t0), .val (.ref s0), .val (.ref s1), .val (.ref s1), .val (.int mq), .val (.int (0 : Int32)), .val (.double (0 : UInt64)), .second] [(.int (0 : Int32)), (.ref s1)])) rfl rfl (hb hby d1_79) _ ?_
    show Steps p.tables e below (T31.setTop (mkF m 80 #[.val (.ref t0), .val (.ref s0), .val (.ref s1), .val (.ref s1), .val (.int mq), .val (.int (0 : Int32)), .val (.double (0 : UInt64)), .second] [(.double (0 : UInt64))])) _
    refine XS.dstore X31.here hx rfl (hb hby d1_80) rfl (l' := #[.val (.ref t0), .val (.ref s0), .val (.ref s1), .val (.ref s1), .val (.int mq), .val (.int (0 : Int32)), .val (.double (0 : UInt64)), .second]) rfl ?_
    refine XS.dload X31.here hx rfl (hb hby d1_82) rfl ?_
    show Steps p.tables e below (T31.setTop (mkF m 84 #[.val (.ref t0), .val (.ref s0), .val (.ref s1), .val (.ref s1), .val (.int mq), .val (.int (0 : Int32)), .val (.double (0 : UInt64)), .second] [(.double (0 : UInt64))])) _
    refine st34 _ ?_
    show Steps p.tables e below (T34.setTop (mkF m 87 #[.val (.ref t0), .val (.ref s0), .val (.ref s1), .val (.ref s1), .val (.int mq), .val (.int (0 : Int32)), .val (.double (0 : UInt64)), .second] [(.double (0 : UInt64))])) _
    jvm_step X34.here [X34.here.top, hx, (hb hby d1_87), Value.category]
    show Steps p.tables e below (T34.setTop (mkF m 88 #[.val (.ref t0), .val (.ref s0), .val (.ref s1), .val (.ref s1), .val (.int mq), .val (.int (0 : Int32)), .val (.double (0 : UInt64)), .second] [])) _
    refine XS.iinc X34.here hx rfl (hb hby d1_88) rfl (l' := #[.val (.ref t0), .val (.ref s0), .val (.ref s1), .val (.ref s1), .val (.int mq), .val (.int ((0 : Int32) + (1 : Int32))), .val (.double (0 : UInt64)), .second]) rfl ?_
    show Steps p.tables e below (T34.setTop (mkF m 91 #[.val (.ref t0), .val (.ref s0), .val (.ref s1), .val (.ref s1), .val (.int mq), .val (.int ((0 : Int32) + (1 : Int32))), .val (.double (0 : UInt64)), .second] [])) _
    rw [show ((0 : Int32) + (1 : Int32)) = (1 : Int32) by decide]
    show Steps p.tables e below (T34.setTop (mkF m 91 #[.val (.ref t0), .val (.ref s0), .val (.ref s1), .val (.ref s1), .val (.int mq), .val (.int (1 : Int32)), .val (.double (0 : UInt64)), .second] [])) _
    refine XS.goto X34.here hx rfl (pc0 := 91) (pc' := 69) rfl (hb hby d1_91) (by decide) (by decide) ?_
    refine XS.iload X34.here hx rfl (hb hby d1_69) rfl ?_
    show Steps p.tables e below (T34.setTop (mkF m 71 #[.val (.ref t0), .val (.ref s0), .val (.ref s1), .val (.ref s1), .val (.int mq), .val (.int (1 : Int32)), .val (.double (0 : UInt64)), .second] [(.int (1 : Int32))])) _
    refine XS.iload X34.here hx rfl (hb hby d1_71) rfl ?_
    refine XS.icmpNo X34.here hx rfl (hb hby d1_73) rfl (tlt hc73_1).2.1 ?_
    refine XS.aloadN X34.here hx rfl (hb hby d1_76) rfl rfl ?_
    refine XS.iload X34.here hx rfl (hb hby d1_77) rfl ?_
    refine X34.daload hx (j := (1 : Int32)) (v := (.double (0 : UInt64))) (by rw [e34]; exact Arq35.1) (State.isArrayOf_alike hZ2.alike Arq35.2.1) Arq35.2.2 (inb_of Sq35 hin79_1) (Has.at Hq35 (inb_of Sq35 hin79_1) rfl) (g := (mkF m 79 #[.val (.ref t0), .val (.ref s0), .val (.ref s1), .val (.ref s1), .val (.int mq), .val (.int (1 : Int32)), .val (.double (0 : UInt64)), .second] [(.int (1 : Int32)), (.ref s1)])) rfl rfl (hb hby d1_79) _ ?_
    show Steps p.tables e below (T34.setTop (mkF m 80 #[.val (.ref t0), .val (.ref s0), .val (.ref s1), .val (.ref s1), .val (.int mq), .val (.int (1 : Int32)), .val (.double (0 : UInt64)), .second] [(.double (0 : UInt64))])) _
    refine XS.dstore X34.here hx rfl (hb hby d1_80) rfl (l' := #[.val (.ref t0), .val (.ref s0), .val (.ref s1), .val (.ref s1), .val (.int mq), .val (.int (1 : Int32)), .val (.double (0 : UInt64)), .second]) rfl ?_
    show Steps p.tables e below (T34.setTop (mkF m 82 #[.val (.ref t0), .val (.ref s0), .val (.ref s1), .val (.ref s1), .val (.int mq), .val (.int (1 : Int32)), .val (.double (0 : UInt64)), .second] [])) _
    refine XS.dload X34.here hx rfl (hb hby d1_82) rfl ?_
    refine st36 _ ?_
    show Steps p.tables e below (T36.setTop (mkF m 87 #[.val (.ref t0), .val (.ref s0), .val (.ref s1), .val (.ref s1), .val (.int mq), .val (.int (1 : Int32)), .val (.double (0 : UInt64)), .second] [(.double (0 : UInt64))])) _
    jvm_step X36.here [X36.here.top, hx, (hb hby d1_87), Value.category]
    show Steps p.tables e below (T36.setTop (mkF m 88 #[.val (.ref t0), .val (.ref s0), .val (.ref s1), .val (.ref s1), .val (.int mq), .val (.int (1 : Int32)), .val (.double (0 : UInt64)), .second] [])) _
    refine XS.iinc X36.here hx rfl (hb hby d1_88) rfl (l' := #[.val (.ref t0), .val (.ref s0), .val (.ref s1), .val (.ref s1), .val (.int mq), .val (.int ((1 : Int32) + (1 : Int32))), .val (.double (0 : UInt64)), .second]) rfl ?_
    show Steps p.tables e below (T36.setTop (mkF m 91 #[.val (.ref t0), .val (.ref s0), .val (.ref s1), .val (.ref s1), .val (.int mq), .val (.int ((1 : Int32) + (1 : Int32))), .val (.double (0 : UInt64)), .second] [])) _
    rw [show ((1 : Int32) + (1 : Int32)) = (2 : Int32) by decide]
    show Steps p.tables e below (T36.setTop (mkF m 91 #[.val (.ref t0), .val (.ref s0), .val (.ref s1), .val (.ref s1), .val (.int mq), .val (.int (2 : Int32)), .val (.double (0 : UInt64)), .second] [])) _
    refine XS.goto X36.here hx rfl (pc0 := 91) (pc' := 69) rfl (hb hby d1_91) (by decide) (by decide) ?_
    show Steps p.tables e below (T36.setTop (mkF m 69 #[.val (.ref t0), .val (.ref s0), .val (.ref s1), .val (.ref s1), .val (.int mq), .val (.int (2 : Int32)), .val (.double (0 : UInt64)), .second] [])) _
    refine XS.iload X36.here hx rfl (hb hby d1_69) rfl ?_
    refine XS.iload X36.here hx rfl (hb hby d1_71) rfl ?_
    refine XS.icmpYes X36.here hx rfl (pc0 := 73) (pc' := 94) rfl (hb hby d1_73) rfl (flt hc73_2).2.1 (by decide) (by decide) ?_
    exact X36.returnOut hx Bd.returns (hb hby d1_94) hr
  · show Q_ini32 Z t0 s0 s1 nq ka mq kb h0 n0 _ T36.heap _
    rw [e36]
    exact ⟨rfl, N36, K18, f19, f20, f24⟩
def Q_ini33 (Z : State) (t0 : Addr) (s0 : Addr) (s1 : Addr) (nq : Int32) (ka : ClassId) (mq : Int32) (kb : ClassId) (h0 : Heap) (n0 : Nat) (v : Option Value) (h : Heap) (L : List Loc) : Prop := v = none ∧ Fr n0 L ∧ Keep h0 h [t0] ∧ Exa Z h t0 "com/example/hedge/hedge/RewardStructure" ∧ Fld Z h t0 "com/example/hedge/hedge/RewardStructure" "state" "[D" (.ref s0) ∧ Fld Z h t0 "com/example/hedge/hedge/RewardStructure" "transition" "[D" (.ref s1)
set_option maxRecDepth 65536 in
set_option maxHeartbeats 40000000 in
theorem ini33 (l : Launch) (Z : State) (a0 : Array Value) (hw : ∀ d ∈ tables_1, d.before a0 Z = true) (ws : List Jvm.Cond) (t0 : Addr) (s0 : Addr) (s1 : Addr) (nq : Int32) (ka : ClassId) (mq : Int32) (kb : ClassId) (h0 : Heap) (n0 : Nat) (Z0 : n0 ≤ h0.size) (E_t0 : Exa Z h0 t0 "com/example/hedge/hedge/RewardStructure") (g_t0 : n0 ≤ t0) (F_state_t0 : Fld Z h0 t0 "com/example/hedge/hedge/RewardStructure" "state" "[D" .null) (F_transition_t0 : Fld Z h0 t0 "com/example/hedge/hedge/RewardStructure" "transition" "[D" .null) (E_s0 : Exa Z h0 s0 "[D") (V_s0 : Arv Z h0 s0 ka .double nq [] (.double (0 : UInt64))) (V_s1 : Arv Z h0 s1 kb .double mq [] (.double (0 : UInt64))) (ne_t0_s0 : t0 ≠ s0) (ne_t0_s1 : t0 ≠ s1) (hc35 : (0 : Int32) < nq) (hin41 : ¬ (0 : Int32) < 0 ∧ (0 : Int32) < nq) (hc35_1 : (1 : Int32) < nq) (hin41_1 : ¬ (1 : Int32) < 0 ∧ (1 : Int32) < nq) (hc35_2 : (2 : Int32) < nq) (hin41_2 : ¬ (2 : Int32) < 0 ∧ (2 : Int32) < nq) (hc35_3 : ¬ ((3 : Int32) < nq)) (hc73 : (0 : Int32) < mq) (hin79 : ¬ (0 : Int32) < 0 ∧ (0 : Int32) < mq) (hc73_1 : (1 : Int32) < mq) (hin79_1 : ¬ (1 : Int32) < 0 ∧ (1 : Int32) < mq) (hc73_2 : (2 : Int32) < mq) (hin79_2 : ¬ (2 : Int32) < 0 ∧ (2 : Int32) < mq) (hc73_3 : ¬ ((3 : Int32) < mq)) :
    MetFree l (⟨"com/example/hedge/hedge/RewardStructure", "<init>", "([D[D)V"⟩ : MethodName) (head1 (Jvm.Cond.code (⟨"com/example/hedge/hedge/RewardStructure", "<init>", "([D[D)V"⟩ : MethodName) prog_30_method_1_code 8 none :: ws) ({ frames := 1, cells := 2, slots := 24, locals := 14 } : Room)) (fun a U => a = #[(.ref t0), (.ref s0), (.ref s1)] ∧ Z.Warmed39 U.vm ∧ U.heap = h0) (fun _ _ _ _ _ => True) (fun _ U o U' => ∃ v L, o = .returned v ∧ Q_ini33 Z t0 s0 s1 nq ka mq kb h0 n0 v U'.heap L ∧ ReturnedEndW U o U' L ({ frames := 1, cells := 2, slots := 24, locals := 14 } : Room).cells ({ frames := 1, cells := 2, slots := 24, locals := 14 } : Room).slots) := by
  refine MetFree.of_bodySF (plainFor_of_name pn_com_example_hedge_hedge_RewardStructure) hisR ?_
  intro p e s m args below meth c s₁ Bd hml0 hP hK
  obtain ⟨rfl, hZ, hh⟩ := hP
  have hx := Bd.exec
  have hby := Bd.bytes
  have hml : c.maxLocals = 8 := hml0
  have hown : s.vm.findClass "com/example/hedge/hedge/RewardStructure" = some m.cls := findClass_of_methodNamed Bd.named
  have hnm := (name_of_methodNamed Bd.named Bd.method).1
  have X0 : Stand p l e ({ frames := 1, cells := 2, slots := 24, locals := 14 } : Room) s m #[(.ref t0), (.ref s0), (.ref s1)] below meth c s₁ [] 0 0 := Stand.of_body Bd
  have e0 : s₁.heap = h0 := by rw [← hh, Bd.state]; rfl
  have N0 := Fr.nil n0
  have pre0 : ∀ t, Steps p.tables e below (s₁.setTop (mkF m 0 #[.val (.ref t0), .val (.ref s0), .val (.ref s1), .unset, .unset, .unset, .unset, .unset] [])) t → Steps p.tables e below (s₁.setTop (entryFrame m #[(.ref t0), (.ref s0), (.ref s1)] 8)) t := fun t k => castTop (ef_1_RRR m t0 s0 s1) k
  obtain ⟨vm0, k00, X0, hS0, hk0, hZ0, hown0⟩ := own_W0 X0 e0 hZ hown
  obtain ⟨T1, X1, e1, st1⟩ := initO X0 hx hZ0 hown0 (hw _ (List.mem_of_getElem? (i := 7) rfl)) (hw _ (List.mem_of_getElem? (i := 8) rfl)) (hw _ (List.mem_of_getElem? (i := 9) rfl)) e0 (g := (mkF m 1 #[.val (.ref t0), .val (.ref s0), .val (.ref s1), .unset, .unset, .unset, .unset, .unset] [(.ref t0)])) rfl (by rw [hml]; rfl) rfl (hb hby d1_1) (by decide) (W := 0) (by show 2 * 0 + _ ≤ _; exact Nat.le_of_eq rfl) (by decide)
  obtain ⟨a2, T2, h2, kq2, X2, e2, E2, hS2, hkq2, hZ2, hown2, st2⟩ := ldcS X1 hx hZ0 hown0 (hw _ (List.mem_of_getElem? (i := 10) rfl)) (own_satoms hw) e1 hS0 hk0 (g := (mkF m 6 #[.val (.ref t0), .val (.ref s0), .val (.ref s1), .unset, .unset, .unset, .unset, .unset] [(.ref s0), (.ref t0)])) rfl (hb hby d1_6) (n := 20) (by decide) (by decide) (by decide) (by decide)
  have f3 := E_t0.ext E2
  have f4 := F_state_t0.ext E2
  have f5 := F_transition_t0.ext E2
  have f6 := E_s0.ext E2
  have f7 := V_s0.ext E2
  have f8 := V_s1.ext E2
  have K2 : Keep h0 h2 [t0] := (Keep.refl h0 [t0]).ext E2
  have Zs2 := Nat.le_trans Z0 E2.1
  have hk2 := Nat.le_trans hk0 E2.1
  obtain ⟨_, _, ⟨T9, L9, k9, n9⟩, -, X9, ⟨Lc9, hQ9, lq9, yq9, zq9⟩, st9⟩ := Jvm.LawKit.callS X2 hx (y := (⟨"java/util/Objects", "requireNonNull", "(Ljava/lang/Object;Ljava/lang/String;)Ljava/lang/Object;"⟩ : MethodName)) hown2 (mvT hZ2 (hw _ (List.mem_of_getElem? (i := 18) rfl))) (mvT hZ2 (hw _ (List.mem_of_getElem? (i := 19) rfl))) (mvT hZ2 (hw _ (List.mem_of_getElem? (i := 20) rfl))) (mvT hZ2 (hw _ (List.mem_of_getElem? (i := 21) rfl))) (by decide) (backOf (W := 1) (rn l Z a0 hw [] s0 a2 h2 n0 Zs2 ) hZ2 (hw _ (List.mem_of_getElem? (i := 21) rfl)) (hw _ (List.mem_of_getElem? (i := 20) rfl)) (by decide) (by decide)) (g := (mkF m 8 #[.val (.ref t0), .val (.ref s0), .val (.ref s1), .unset, .unset, .unset, .unset, .unset] [(.ref a2), (.ref s0), (.ref t0)])) rfl (by rw [hml]; rfl) (argsL := [(.ref s0), (.ref a2)]) (rest := [(.ref t0)]) (lenOf pd_0 rfl) rfl (by show 2 * 0 + _ ≤ _; exact Nat.le_of_eq rfl) (hb hby d1_8) (fun _ _ => ⟨rfl, e2, (by decide : 2 + 0 ≤ _), (by decide : 24 + 0 ≤ _)⟩)
  dsimp only [Pt.U, Pt.locs, Pt.cells, Pt.slots] at X9 lq9 yq9 zq9 st9 hQ9
  rw [lq9, yq9, zq9] at X9
  obtain ⟨rfl, N9q, eh9⟩ := hQ9
  have N9 := Fr.app N0 N9q
  have e9 : T9.heap = h2 := eh9
  obtain ⟨T10, X10, e10, st10⟩ := castY X9 hx hZ2 hown2 (hw _ (List.mem_of_getElem? (i := 22) rfl)) e9 (Ins.self f6) (g := (mkF m 11 #[.val (.ref t0), .val (.ref s0), .val (.ref s1), .unset, .unset, .unset, .unset, .unset] [(.ref s0), (.ref t0)])) rfl rfl (hb hby d1_11)
  obtain ⟨T11, h11, X11, e11, W11, st11⟩ := putF X10 hx hZ2 hown2 (host := "") (Or.inl (hw _ (List.mem_of_getElem? (i := 24) rfl))) Via.refl e10 f4 f3 (Or.inr ⟨(hw _ (List.mem_of_getElem? (i := 25) rfl)), rfl, hnm⟩) (hw _ (List.mem_of_getElem? (i := 2) rfl)) (ty := (.array .double)) (by decide) rfl rfl (g := (mkF m 14 #[.val (.ref t0), .val (.ref s0), .val (.ref s1), .unset, .unset, .unset, .unset, .unset] [(.ref s0), (.ref t0)])) rfl rfl (hb hby d1_14)
  have f12 := f3.wr W11
  have f13 := f5.other W11 (Or.inr (so_RewardStructure_transition_state hw))
  have f14 := f6.wr W11
  have f15 := f7.other W11 (Ne.symm ne_t0_s0)
  have f16 := f8.other W11 (Ne.symm ne_t0_s1)
  have K11 : Keep h0 h11 [t0] := K2.wr W11 (Or.inl (List.mem_of_getElem? (i := 0) rfl))
  have Zs11 := Nat.le_trans Zs2 (Keep.of_wr W11).1
  have hk11 := Nat.le_trans hkq2 (Keep.of_wr W11).1
  have N11 := Fr.snoc X11 N9 g_t0
  have f17 : Fld Z h11 t0 "com/example/hedge/hedge/RewardStructure" "state" "[D" (.ref s0) := f4.same W11
  obtain ⟨T18, h18, X18, e18, W18, st18⟩ := putF X11 hx hZ2 hown2 (host := "") (Or.inl (hw _ (List.mem_of_getElem? (i := 26) rfl))) Via.refl e11 f13 f12 (Or.inr ⟨(hw _ (List.mem_of_getElem? (i := 27) rfl)), rfl, hnm⟩) (hw _ (List.mem_of_getElem? (i := 2) rfl)) (ty := (.array .double)) (by decide) rfl rfl (g := (mkF m 19 #[.val (.ref t0), .val (.ref s0), .val (.ref s1), .unset, .unset, .unset, .unset, .unset] [(.ref s1), (.ref t0)])) rfl rfl (hb hby d1_19)
  have f19 := f12.wr W18
  have f20 := f17.other W18 (Or.inr (so_RewardStructure_state_transition hw))
  have f21 := f14.wr W18
  have f22 := f15.other W18 (Ne.symm ne_t0_s0)
  have f23 := f16.other W18 (Ne.symm ne_t0_s1)
  have K18 : Keep h0 h18 [t0] := K11.wr W18 (Or.inl (List.mem_of_getElem? (i := 0) rfl))
  have Zs18 := Nat.le_trans Zs11 (Keep.of_wr W18).1
  have hk18 := Nat.le_trans hk11 (Keep.of_wr W18).1
  have N18 := Fr.snoc X18 N11 g_t0
  have f24 : Fld Z h18 t0 "com/example/hedge/hedge/RewardStructure" "transition" "[D" (.ref s1) := f13.same W18
  obtain ⟨cq25, Arq25, -, Sq25, Nq25, -, -⟩ := id f22
  obtain ⟨cq26, Arq26, -, Sq26, -, Hq26, -⟩ := id f22
  obtain ⟨_, _, ⟨T27, L27, k27, n27⟩, -, X27, ⟨Lc27, hQ27, lq27, yq27, zq27⟩, st27⟩ := Jvm.LawKit.callS X18 hx (y := (⟨"com/example/hedge/hedge/RewardStructure", "checkReward", "(D)D"⟩ : MethodName)) hown2 (mvT hZ2 (hw _ (List.mem_of_getElem? (i := 33) rfl))) (mvT hZ2 (hw _ (List.mem_of_getElem? (i := 34) rfl))) (mvT hZ2 (hw _ (List.mem_of_getElem? (i := 3) rfl))) (mvT hZ2 (hw _ (List.mem_of_getElem? (i := 35) rfl))) (by decide) (backOf (W := 0) (cr l Z a0 hw []  h18 n0 Zs18 ) hZ2 (hw _ (List.mem_of_getElem? (i := 35) rfl)) (hw _ (List.mem_of_getElem? (i := 3) rfl)) (by decide) (by decide)) (g := (mkF m 46 #[.val (.ref t0), .val (.ref s0), .val (.ref s1), .val (.ref s0), .val (.int nq), .val (.int (0 : Int32)), .val (.double (0 : UInt64)), .second] [(.double (0 : UInt64))])) rfl (by rw [hml]; rfl) (argsL := [(.double (0 : UInt64))]) (rest := []) (lenOf pd_1 rfl) rfl (by show 2 * 0 + _ ≤ _; exact Nat.le_of_eq rfl) (hb hby d1_46) (fun _ _ => ⟨rfl, e18, (by decide : 2 + 0 ≤ _), (by decide : 24 + 0 ≤ _)⟩)
  dsimp only [Pt.U, Pt.locs, Pt.cells, Pt.slots] at X27 lq27 yq27 zq27 st27 hQ27
  rw [lq27, yq27, zq27] at X27
  obtain ⟨rfl, N27q, eh27⟩ := hQ27
  have N27 := Fr.app N18 N27q
  have e27 : T27.heap = h18 := eh27
  obtain ⟨cq28, Arq28, -, Sq28, -, Hq28, -⟩ := id f22
  obtain ⟨_, _, ⟨T29, L29, k29, n29⟩, -, X29, ⟨Lc29, hQ29, lq29, yq29, zq29⟩, st29⟩ := Jvm.LawKit.callS X27 hx (y := (⟨"com/example/hedge/hedge/RewardStructure", "checkReward", "(D)D"⟩ : MethodName)) hown2 (mvT hZ2 (hw _ (List.mem_of_getElem? (i := 33) rfl))) (mvT hZ2 (hw _ (List.mem_of_getElem? (i := 34) rfl))) (mvT hZ2 (hw _ (List.mem_of_getElem? (i := 3) rfl))) (mvT hZ2 (hw _ (List.mem_of_getElem? (i := 35) rfl))) (by decide) (backOf (W := 0) (cr l Z a0 hw []  h18 n0 Zs18 ) hZ2 (hw _ (List.mem_of_getElem? (i := 35) rfl)) (hw _ (List.mem_of_getElem? (i := 3) rfl)) (by decide) (by decide)) (g := (mkF m 46 #[.val (.ref t0), .val (.ref s0), .val (.ref s1), .val (.ref s0), .val (.int nq), .val (.int (1 : Int32)), .val (.double (0 : UInt64)), .second] [(.double (0 : UInt64))])) rfl (by rw [hml]; rfl) (argsL := [(.double (0 : UInt64))]) (rest := []) (lenOf pd_1 rfl) rfl (by show 2 * 0 + _ ≤ _; exact Nat.le_of_eq rfl) (hb hby d1_46) (fun _ _ => ⟨rfl, e27, (by decide : 2 + 0 ≤ _), (by decide : 24 + 0 ≤ _)⟩)
  dsimp only [Pt.U, Pt.locs, Pt.cells, Pt.slots] at X29 lq29 yq29 zq29 st29 hQ29
  rw [lq29, yq29, zq29] at X29
  obtain ⟨rfl, N29q, eh29⟩ := hQ29
  have N29 := Fr.app N27 N29q
  have e29 : T29.heap = h18 := eh29
  obtain ⟨cq30, Arq30, -, Sq30, -, Hq30, -⟩ := id f22
  obtain ⟨_, _, ⟨T31, L31, k31, n31⟩, -, X31, ⟨Lc31, hQ31, lq31, yq31, zq31⟩, st31⟩ := Jvm.LawKit.callS X29 hx (y := (⟨"com/example/hedge/hedge/RewardStructure", "checkReward", "(D)D"⟩ : MethodName)) hown2 (mvT hZ2 (hw _ (List.mem_of_getElem? (i := 33) rfl))) (mvT hZ2 (hw _ (List.mem_of_getElem? (i := 34) rfl))) (mvT hZ2 (hw _ (List.mem_of_getElem? (i := 3) rfl))) (mvT hZ2 (hw _ (List.mem_of_getElem? (i := 35) rfl))) (by decide) (backOf (W := 0) (cr l Z a0 hw []  h18 n0 Zs18 ) hZ2 (hw _ (List.mem_of_getElem? (i := 35) rfl)) (hw _ (List.mem_of_getElem? (i := 3) rfl)) (by decide) (by decide)) (g := (mkF m 46 #[.val (.ref t0), .val (.ref s0), .val (.ref s1), .val (.ref s0), .val (.int nq), .val (.int (2 : Int32)), .val (.double (0 : UInt64)), .second] [(.double (0 : UInt64))])) rfl (by rw [hml]; rfl) (argsL := [(.double (0 : UInt64))]) (rest := []) (lenOf pd_1 rfl) rfl (by show 2 * 0 + _ ≤ _; exact Nat.le_of_eq rfl) (hb hby d1_46) (fun _ _ => ⟨rfl, e29, (by decide : 2 + 0 ≤ _), (by decide : 24 + 0 ≤ _)⟩)
  dsimp only [Pt.U, Pt.locs, Pt.cells, Pt.slots] at X31 lq31 yq31 zq31 st31 hQ31
  rw [lq31, yq31, zq31] at X31
  obtain ⟨rfl, N31q, eh31⟩ := hQ31
  have N31 := Fr.app N29 N31q
  have e31 : T31.heap = h18 := eh31
  obtain ⟨cq32, Arq32, -, Sq32, Nq32, -, -⟩ := id f23
  obtain ⟨cq33, Arq33, -, Sq33, -, Hq33, -⟩ := id f23
  obtain ⟨_, _, ⟨T34, L34, k34, n34⟩, -, X34, ⟨Lc34, hQ34, lq34, yq34, zq34⟩, st34⟩ := Jvm.LawKit.callS X31 hx (y := (⟨"com/example/hedge/hedge/RewardStructure", "checkReward", "(D)D"⟩ : MethodName)) hown2 (mvT hZ2 (hw _ (List.mem_of_getElem? (i := 33) rfl))) (mvT hZ2 (hw _ (List.mem_of_getElem? (i := 34) rfl))) (mvT hZ2 (hw _ (List.mem_of_getElem? (i := 3) rfl))) (mvT hZ2 (hw _ (List.mem_of_getElem? (i := 35) rfl))) (by decide) (backOf (W := 0) (cr l Z a0 hw []  h18 n0 Zs18 ) hZ2 (hw _ (List.mem_of_getElem? (i := 35) rfl)) (hw _ (List.mem_of_getElem? (i := 3) rfl)) (by decide) (by decide)) (g := (mkF m 84 #[.val (.ref t0), .val (.ref s0), .val (.ref s1), .val (.ref s1), .val (.int mq), .val (.int (0 : Int32)), .val (.double (0 : UInt64)), .second] [(.double (0 : UInt64))])) rfl (by rw [hml]; rfl) (argsL := [(.double (0 : UInt64))]) (rest := []) (lenOf pd_1 rfl) rfl (by show 2 * 0 + _ ≤ _; exact Nat.le_of_eq rfl) (hb hby d1_84) (fun _ _ => ⟨rfl, e31, (by decide : 2 + 0 ≤ _), (by decide : 24 + 0 ≤ _)⟩)
  dsimp only [Pt.U, Pt.locs, Pt.cells, Pt.slots] at X34 lq34 yq34 zq34 st34 hQ34
  rw [lq34, yq34, zq34] at X34
  obtain ⟨rfl, N34q, eh34⟩ := hQ34
  have N34 := Fr.app N31 N34q
  have e34 : T34.heap = h18 := eh34
  obtain ⟨cq35, Arq35, -, Sq35, -, Hq35, -⟩ := id f23
  obtain ⟨_, _, ⟨T36, L36, k36, n36⟩, -, X36, ⟨Lc36, hQ36, lq36, yq36, zq36⟩, st36⟩ := Jvm.LawKit.callS X34 hx (y := (⟨"com/example/hedge/hedge/RewardStructure", "checkReward", "(D)D"⟩ : MethodName)) hown2 (mvT hZ2 (hw _ (List.mem_of_getElem? (i := 33) rfl))) (mvT hZ2 (hw _ (List.mem_of_getElem? (i := 34) rfl))) (mvT hZ2 (hw _ (List.mem_of_getElem? (i := 3) rfl))) (mvT hZ2 (hw _ (List.mem_of_getElem? (i := 35) rfl))) (by decide) (backOf (W := 0) (cr l Z a0 hw []  h18 n0 Zs18 ) hZ2 (hw _ (List.mem_of_getElem? (i := 35) rfl)) (hw _ (List.mem_of_getElem? (i := 3) rfl)) (by decide) (by decide)) (g := (mkF m 84 #[.val (.ref t0), .val (.ref s0), .val (.ref s1), .val (.ref s1), .val (.int mq), .val (.int (1 : Int32)), .val (.double (0 : UInt64)), .second] [(.double (0 : UInt64))])) rfl (by rw [hml]; rfl) (argsL := [(.double (0 : UInt64))]) (rest := []) (lenOf pd_1 rfl) rfl (by show 2 * 0 + _ ≤ _; exact Nat.le_of_eq rfl) (hb hby d1_84) (fun _ _ => ⟨rfl, e34, (by decide : 2 + 0 ≤ _), (by decide : 24 + 0 ≤ _)⟩)
  dsimp only [Pt.U, Pt.locs, Pt.cells, Pt.slots] at X36 lq36 yq36 zq36 st36 hQ36
  rw [lq36, yq36, zq36] at X36
  obtain ⟨rfl, N36q, eh36⟩ := hQ36
  have N36 := Fr.app N34 N36q
  have e36 : T36.heap = h18 := eh36
  obtain ⟨cq37, Arq37, -, Sq37, -, Hq37, -⟩ := id f23
  obtain ⟨_, _, ⟨T38, L38, k38, n38⟩, -, X38, ⟨Lc38, hQ38, lq38, yq38, zq38⟩, st38⟩ := Jvm.LawKit.callS X36 hx (y := (⟨"com/example/hedge/hedge/RewardStructure", "checkReward", "(D)D"⟩ : MethodName)) hown2 (mvT hZ2 (hw _ (List.mem_of_getElem? (i := 33) rfl))) (mvT hZ2 (hw _ (List.mem_of_getElem? (i := 34) rfl))) (mvT hZ2 (hw _ (List.mem_of_getElem? (i := 3) rfl))) (mvT hZ2 (hw _ (List.mem_of_getElem? (i := 35) rfl))) (by decide) (backOf (W := 0) (cr l Z a0 hw []  h18 n0 Zs18 ) hZ2 (hw _ (List.mem_of_getElem? (i := 35) rfl)) (hw _ (List.mem_of_getElem? (i := 3) rfl)) (by decide) (by decide)) (g := (mkF m 84 #[.val (.ref t0), .val (.ref s0), .val (.ref s1), .val (.ref s1), .val (.int mq), .val (.int (2 : Int32)), .val (.double (0 : UInt64)), .second] [(.double (0 : UInt64))])) rfl (by rw [hml]; rfl) (argsL := [(.double (0 : UInt64))]) (rest := []) (lenOf pd_1 rfl) rfl (by show 2 * 0 + _ ≤ _; exact Nat.le_of_eq rfl) (hb hby d1_84) (fun _ _ => ⟨rfl, e36, (by decide : 2 + 0 ≤ _), (by decide : 24 + 0 ≤ _)⟩)
  dsimp only [Pt.U, Pt.locs, Pt.cells, Pt.slots] at X38 lq38 yq38 zq38 st38 hQ38
  rw [lq38, yq38, zq38] at X38
  obtain ⟨rfl, N38q, eh38⟩ := hQ38
  have N38 := Fr.app N36 N38q
  have e38 : T38.heap = h18 := eh38
  obtain ⟨fs, hr, hrun, hended, hRW⟩ := X38.leaveW hS2 (by rw [e38]; exact hk18) (v := none) (fun _ => rfl)
  refine ⟨_, _, pre0 _ ?_, hrun, hended, _, _, rfl, ?_, ⟨_, rfl⟩, hRW.2.1, hRW.2.2.1, hRW.2.2.2.mono (by decide) (by decide)⟩
  · show Steps p.tables e below (s₁.setTop (mkF m 0 #[.val (.ref t0), .val (.ref s0), .val (.ref s1), .unset, .unset, .unset, .unset, .unset] [])) _
    refine XS.aloadN X0.here hx rfl (hb hby d1_0) rfl rfl ?_
    refine st1 _ ?_
    show Steps p.tables e below (T1.setTop (mkF m 4 #[.val (.ref t0), .val (.ref s0), .val (.ref s1), .unset, .unset, .unset, .unset, .unset] [])) _
    refine XS.aloadN X1.here hx rfl (hb hby d1_4) rfl rfl ?_
    refine XS.aloadN X1.here hx rfl (hb hby d1_5) rfl rfl ?_
    refine st2 _ ?_
    show Steps p.tables e below (T2.setTop (mkF m 8 #[.val (.ref t0), .val (.ref s0), .val (.ref s1), .unset, .unset, .unset, .unset, .unset] [(.ref a2), (.ref s0), (.ref t0)])) _
    refine st9 _ ?_
    show Steps p.tables e below (T9.setTop (mkF m 11 #[.val (.ref t0), .val (.ref s0), .val (.ref s1), .unset, .unset, .unset, .unset, .unset] [(.ref s0), (.ref t0)])) _
    refine st10 _ ?_
    show Steps p.tables e below (T10.setTop (mkF m 14 #[.val (.ref t0), .val (.ref s0), .val (.ref s1), .unset, .unset, .unset, .unset, .unset] [(.ref s0), (.ref t0)])) _
    refine st11 _ ?_
    show Steps p.tables e below (T11.setTop (mkF m 17 #[.val (.ref t0), .val (.ref s0), .val (.ref s1), .unset, .unset, .unset, .unset, .unset] [])) _
    refine XS.aloadN X11.here hx rfl (hb hby d1_17) rfl rfl ?_
    refine XS.aloadN X11.here hx rfl (hb hby d1_18) rfl rfl ?_
    refine st18 _ ?_
    show Steps p.tables e below (T18.setTop (mkF m 22 #[.val (.ref t0), .val (.ref s0), .val (.ref s1), .unset, .unset, .unset, .unset, .unset] [])) _
    refine XS.aloadN X18.here hx rfl (hb hby d1_22) rfl rfl ?_
    refine XS.astoreN X18.here hx rfl (hb hby d1_23) rfl rfl (l' := #[.val (.ref t0), .val (.ref s0), .val (.ref s1), .val (.ref s0), .unset, .unset, .unset, .unset]) rfl ?_
    refine XS.aloadN X18.here hx rfl (hb hby d1_24) rfl rfl ?_
    refine X18.arraylength hx (by rw [e18]; exact Arq25.1) (State.isArrayOf_alike hZ2.alike Arq25.2.1) (g := (mkF m 25 #[.val (.ref t0), .val (.ref s0), .val (.ref s1), .val (.ref s0), .unset, .unset, .unset, .unset] [(.ref s0)])) rfl rfl (hb hby d1_25) _ ?_
    rw [len_of Sq25 Nq25]
    show Steps p.tables e below (T18.setTop (mkF m 26 #[.val (.ref t0), .val (.ref s0), .val (.ref s1), .val (.ref s0), .unset, .unset, .unset, .unset] [(.int nq)])) _
    refine XS.istore X18.here hx rfl (hb hby d1_26) rfl (l' := #[.val (.ref t0), .val (.ref s0), .val (.ref s1), .val (.ref s0), .val (.int nq), .unset, .unset, .unset]) rfl ?_
    refine XS.iconst X18.here hx rfl (hb hby d1_28) ?_
    show Steps p.tables e below (T18.setTop (mkF m 29 #[.val (.ref t0), .val (.ref s0), .val (.ref s1), .val (.ref s0), .val (.int nq), .unset, .unset, .unset] [(.int (0 : Int32))])) _
    refine XS.istore X18.here hx rfl (hb hby d1_29) rfl (l' := #[.val (.ref t0), .val (.ref s0), .val (.ref s1), .val (.ref s0), .val (.int nq), .val (.int (0 : Int32)), .unset, .unset]) rfl ?_
    refine XS.iload X18.here hx rfl (hb hby d1_31) rfl ?_
    refine XS.iload X18.here hx rfl (hb hby d1_33) rfl ?_
    refine XS.icmpNo X18.here hx rfl (hb hby d1_35) rfl (tlt hc35).2.1 ?_
    refine XS.aloadN X18.here hx rfl (hb hby d1_38) rfl rfl ?_
    refine XS.iload X18.here hx rfl (hb hby d1_39) rfl ?_
    show Steps p.tables e below (T18.setTop (mkF m 41 #[.val (.ref t0), .val (.ref s0), .val (.ref s1), .val (.ref s0), .val (.int nq), .val (.int (0 : Int32)), .unset, .unset] [(.int (0 : Int32)), (.ref s0)])) _
    refine X18.daload hx (j := (0 : Int32)) (v := (.double (0 : UInt64))) (by rw [e18]; exact Arq26.1) (State.isArrayOf_alike hZ2.alike Arq26.2.1) Arq26.2.2 (inb_of Sq26 hin41) (Has.at Hq26 (inb_of Sq26 hin41) rfl) (g := (mkF m 41 #[.val (.ref t0), .val (.ref s0), .val (.ref s1), .val (.ref s0), .val (.int nq), .val (.int (0 : Int32)), .unset, .unset] [(.int (0 : Int32)), (.ref s0)])) rfl rfl (hb hby d1_41) _ ?_
    show Steps p.tables e below (T18.setTop (mkF m 42 #[.val (.ref t0), .val (.ref s0), .val (.ref s1), .val (.ref s0), .val (.int nq), .val (.int (0 : Int32)), .unset, .unset] [(.double (0 : UInt64))])) _
    refine XS.dstore X18.here hx rfl (hb hby d1_42) rfl (l' := #[.val (.ref t0), .val (.ref s0), .val (.ref s1), .val (.ref s0), .val (.int nq), .val (.int (0 : Int32)), .val (.double (0 : UInt64)), .second]) rfl ?_
    refine XS.dload X18.here hx rfl (hb hby d1_44) rfl ?_
    refine st27 _ ?_
    show Steps p.tables e below (T27.setTop (mkF m 49 #[.val (.ref t0), .val (.ref s0), .val (.ref s1), .val (.ref s0), .val (.int nq), .val (.int (0 : Int32)), .val (.double (0 : UInt64)), .second] [(.double (0 : UInt64))])) _
    jvm_step X27.here [X27.here.top, hx, (hb hby d1_49), Value.category]
    show Steps p.tables e below (T27.setTop (mkF m 50 #[.val (.ref t0), .val (.ref s0), .val (.ref s1), .val (.ref s0), .val (.int nq), .val (.int (0 : Int32)), .val (.double (0 : UInt64)), .second] [])) _
    refine XS.iinc X27.here hx rfl (hb hby d1_50) rfl (l' := #[.val (.ref t0), .val (.ref s0), .val (.ref s1), .val (.ref s0), .val (.int nq), .val (.int ((0 : Int32) + (1 : Int32))), .val (.double (0 : UInt64)), .second]) rfl ?_
    show Steps p.tables e below (T27.setTop (mkF m 53 #[.val (.ref t0), .val (.ref s0), .val (.ref s1), .val (.ref s0), .val (.int nq), .val (.int ((0 : Int32) + (1 : Int32))), .val (.double (0 : UInt64)), .second] [])) _
    rw [show ((0 : Int32) + (1 : Int32)) = (1 : Int32) by decide]
    show Steps p.tables e below (T27.setTop (mkF m 53 #[.val (.ref t0), .val (.ref s0), .val (.ref s1), .val (.ref s0), .val (.int nq), .val (.int (1 : Int32)), .val (.double (0 : UInt64)), .second] [])) _
    refine XS.goto X27.here hx rfl (pc0 := 53) (pc' := 31) rfl (hb hby d1_53) (by decide) (by decide) ?_
    refine XS.iload X27.here hx rfl (hb hby d1_31) rfl ?_
    refine XS.iload X27.here hx rfl (hb hby d1_33) rfl ?_
    refine XS.icmpNo X27.here hx rfl (hb hby d1_35) rfl (tlt hc35_1).2.1 ?_
    refine XS.aloadN X27.here hx rfl (hb hby d1_38) rfl rfl ?_
    show Steps p.tables e below (T27.setTop (mkF m 39 #[.val (.ref t0), .val (.ref s0), .val (.ref s1), .val (.ref s0), .val (.int nq), .val (.int (1 : Int32)), .val (.double (0 : UInt64)), .second] [(.ref s0)])) _
    refine XS.iload X27.here hx rfl (hb hby d1_39) rfl ?_
    refine X27.daload hx (j := (1 : Int32)) (v := (.double (0 : UInt64))) (by rw [e27]; exact Arq28.1) (State.isArrayOf_alike hZ2.alike Arq28.2.1) Arq28.2.2 (inb_of Sq28 hin41_1) (Has.at Hq28 (inb_of Sq28 hin41_1) rfl) (g := (mkF m 41 #[.val (.ref t0), .val (.ref s0), .val (.ref s1), .val (.ref s0), .val (.int nq), .val (.int (1 : Int32)), .val (.double (0 : UInt64)), .second] [(.int (1 : Int32)), (.ref s0)])) rfl rfl (hb hby d1_41) _ ?_
    show Steps p.tables e below (T27.setTop (mkF m 42 #[.val (.ref t0), .val (.ref s0), .val (.ref s1), .val (.ref s0), .val (.int nq), .val (.int (1 : Int32)), .val (.double (0 : UInt64)), .second] [(.double (0 : UInt64))])) _
    refine XS.dstore X27.here hx rfl (hb hby d1_42) rfl (l' := #[.val (.ref t0), .val (.ref s0), .val (.ref s1), .val (.ref s0), .val (.int nq), .val (.int (1 : Int32)), .val (.double (0 : UInt64)), .second]) rfl ?_
    refine XS.dload X27.here hx rfl (hb hby d1_44) rfl ?_
    refine st29 _ ?_
    show Steps p.tables e below (T29.setTop (mkF m 49 #[.val (.ref t0), .val (.ref s0), .val (.ref s1), .val (.ref s0), .val (.int nq), .val (.int (1 : Int32)), .val (.double (0 : UInt64)), .second] [(.double (0 : UInt64))])) _
    jvm_step X29.here [X29.here.top, hx, (hb hby d1_49), Value.category]
    show Steps p.tables e below (T29.setTop (mkF m 50 #[.val (.ref t0), .val (.ref s0), .val (.ref s1), .val (.ref s0), .val (.int nq), .val (.int (1 : Int32)), .val (.double (0 : UInt64)), .second] [])) _
    refine XS.iinc X29.here hx rfl (hb hby d1_50) rfl (l' := #[.val (.ref t0), .val (.ref s0), .val (.ref s1), .val (.ref s0), .val (.int nq), .val (.int ((1 : Int32) + (1 : Int32))), .val (.double (0 : UInt64)), .second]) rfl ?_
    show Steps p.tables e below (T29.setTop (mkF m 53 #[.val (.ref t0), .val (.ref s0), .val (.ref s1), .val (.ref s0), .val (.int nq), .val (.int ((1 : Int32) + (1 : Int32))), .val (.double (0 : UInt64)), .second] [])) _
    rw [show ((1 : Int32) + (1 : Int32)) = (2 : Int32) by decide]
    show Steps p.tables e below (T29.setTop (mkF m 53 #[.val (.ref t0), .val (.ref s0), .val (.ref s1), .val (.ref s0), .val (.int nq), .val (.int (2 : Int32)), .val (.double (0 : UInt64)), .second] [])) _
    refine XS.goto X29.here hx rfl (pc0 := 53) (pc' := 31) rfl (hb hby d1_53) (by decide) (by decide) ?_
    refine XS.iload X29.here hx rfl (hb hby d1_31) rfl ?_
    refine XS.iload X29.here hx rfl (hb hby d1_33) rfl ?_
    refine XS.icmpNo X29.here hx rfl (hb hby d1_35) rfl (tlt hc35_2).2.1 ?_
    show Steps p.tables e below (T29.setTop (mkF m 38 #[.val (.ref t0), .val (.ref s0), .val (.ref s1), .val (.ref s0), .val (.int nq), .val (.int (2 : Int32)), .val (.double (0 : UInt64)), .second] [])) _
    refine XS.aloadN X29.here hx rfl (hb hby d1_38) rfl rfl ?_
    refine XS.iload X29.here hx rfl (hb hby d1_39) rfl ?_
    refine X29.daload hx (j := (2 : Int32)) (v := (.double (0 : UInt64))) (by rw [e29]; exact Arq30.1) (State.isArrayOf_alike hZ2.alike Arq30.2.1) Arq30.2.2 (inb_of Sq30 hin41_2) (Has.at Hq30 (inb_of Sq30 hin41_2) rfl) (g := (mkF m 41 #[.val (.ref t0), .val (.ref s0), .val (.ref s1), .val (.ref s0), .val (.int nq), .val (.int (2 : Int32)), .val (.double (0 : UInt64)), .second] [(.int (2 : Int32)), (.ref s0)])) rfl rfl (hb hby d1_41) _ ?_
    show Steps p.tables e below (T29.setTop (mkF m 42 #[.val (.ref t0), .val (.ref s0), .val (.ref s1), .val (.ref s0), .val (.int nq), .val (.int (2 : Int32)), .val (.double (0 : UInt64)), .second] [(.double (0 : UInt64))])) _
    refine XS.dstore X29.here hx rfl (hb hby d1_42) rfl (l' := #[.val (.ref t0), .val (.ref s0), .val (.ref s1), .val (.ref s0), .val (.int nq), .val (.int (2 : Int32)), .val (.double (0 : UInt64)), .second]) rfl ?_
    refine XS.dload X29.here hx rfl (hb hby d1_44) rfl ?_
    refine st31 _ ?_
    show Steps p.tables e below (T31.setTop (mkF m 49 #[.val (.ref t0), .val (.ref s0), .val (.ref s1), .val (.ref s0), .val (.int nq), .val (.int (2 : Int32)), .val (.double (0 : UInt64)), .second] [(.double (0 : UInt64))])) _
    jvm_step X31.here [X31.here.top, hx, (hb hby d1_49), Value.category]
    show Steps p.tables e below (T31.setTop (mkF m 50 #[.val (.ref t0), .val (.ref s0), .val (.ref s1), .val (.ref s0), .val (.int nq), .val (.int (2 : Int32)), .val (.double (0 : UInt64)), .second] [])) _
    refine XS.iinc X31.here hx rfl (hb hby d1_50) rfl (l' := #[.val (.ref t0), .val (.ref s0), .val (.ref s1), .val (.ref s0), .val (.int nq), .val (.int ((2 : Int32) + (1 : Int32))), .val (.double (0 : UInt64)), .second]) rfl ?_
    show Steps p.tables e below (T31.setTop (mkF m 53 #[.val (.ref t0), .val (.ref s0), .val (.ref s1), .val (.ref s0), .val (.int nq), .val (.int ((2 : Int32) + (1 : Int32))), .val (.double (0 : UInt64)), .second] [])) _
    rw [show ((2 : Int32) + (1 : Int32)) = (3 : Int32) by decide]
    show Steps p.tables e below (T31.setTop (mkF m 53 #[.val (.ref t0), .val (.ref s0), .val (.ref s1), .val (.ref s0), .val (.int nq), .val (.int (3 : Int32)), .val (.double (0 : UInt64)), .second] [])) _
    refine XS.goto X31.here hx rfl (pc0 := 53) (pc' := 31) rfl (hb hby d1_53) (by decide) (by decide) ?_
    refine XS.iload X31.here hx rfl (hb hby d1_31) rfl ?_
    refine XS.iload X31.here hx rfl (hb hby d1_33) rfl ?_
    show Steps p.tables e below (T31.setTop (mkF m 35 #[.val (.ref t0), .val (.ref s0), .val (.ref s1), .val (.ref s0), .val (.int nq), .val (.int (3 : Int32)), .val (.double (0 : UInt64)), .second] [(.int nq), (.int (3 : Int32))])) _
    refine XS.icmpYes X31.here hx rfl (pc0 := 35) (pc' := 56) rfl (hb hby d1_35) rfl (flt hc35_3).2.1 (by decide) (by decide) ?_
    refine XS.aloadN X31.here hx rfl (hb hby d1_56) rfl rfl ?_
    refine XS.ifnullNo X31.here hx rfl (hb hby d1_57) rfl ?_
    refine XS.aloadN X31.here hx rfl (hb hby d1_60) rfl rfl ?_
    refine XS.astoreN X31.here hx rfl (hb hby d1_61) rfl rfl (l' := #[.val (.ref t0), .val (.ref s0), .val (.ref s1), .val (.ref s1), .val (.int nq), .val (.int (3 : Int32)), .val (.double (0 : UInt64)), .second]) rfl ?_
    refine XS.aloadN X31.here hx rfl (hb hby d1_62) rfl rfl ?_
    show Steps p.tables e below (T31.setTop (mkF m 63 #[.val (.ref t0), .val (.ref s0), .val (.ref s1), .val (.ref s1), .val (.int nq), .val (.int (3 : Int32)), .val (.double (0 : UInt64)), .second] [(.ref s1)])) _
    refine X31.arraylength hx (by rw [e31]; exact Arq32.1) (State.isArrayOf_alike hZ2.alike Arq32.2.1) (g := (mkF m 63 #[.val (.ref t0), .val (.ref s0), .val (.ref s1), .val (.ref s1), .val (.int nq), .val (.int (3 : Int32)), .val (.double (0 : UInt64)), .second] [(.ref s1)])) rfl rfl (hb hby d1_63) _ ?_
    rw [len_of Sq32 Nq32]
    show Steps p.tables e below (T31.setTop (mkF m 64 #[.val (.ref t0), .val (.ref s0), .val (.ref s1), .val (.ref s1), .val (.int nq), .val (.int (3 : Int32)), .val (.double (0 : UInt64)), .second] [(.int mq)])) _
    refine XS.istore X31.here hx rfl (hb hby d1_64) rfl (l' := #[.val (.ref t0), .val (.ref s0), .val (.ref s1), .val (.ref s1), .val (.int mq), .val (.int (3 : Int32)), .val (.double (0 : UInt64)), .second]) rfl ?_
    refine XS.iconst X31.here hx rfl (hb hby d1_66) ?_
    refine XS.istore X31.here hx rfl (hb hby d1_67) rfl (l' := #[.val (.ref t0), .val (.ref s0), .val (.ref s1), .val (.ref s1), .val (.int mq), .val (.int (0 : Int32)), .val (.double (0 : UInt64)), .second]) rfl ?_
    refine XS.iload X31.here hx rfl (hb hby d1_69) rfl ?_
    refine XS.iload X31.here hx rfl (hb hby d1_71) rfl ?_
    show Steps p.tables e below (T31.setTop (mkF m 73 #[.val (.ref t0), .val (.ref s0), .val (.ref s1), .val (.ref s1), .val (.int mq), .val (.int (0 : Int32)), .val (.double (0 : UInt64)), .second] [(.int mq), (.int (0 : Int32))])) _
    refine XS.icmpNo X31.here hx rfl (hb hby d1_73) rfl (tlt hc73).2.1 ?_
    refine XS.aloadN X31.here hx rfl (hb hby d1_76) rfl rfl ?_
    refine XS.iload X31.here hx rfl (hb hby d1_77) rfl ?_
    refine X31.daload hx (j := (0 : Int32)) (v := (.double (0 : UInt64))) (by rw [e31]; exact Arq33.1) (State.isArrayOf_alike hZ2.alike Arq33.2.1) Arq33.2.2 (inb_of Sq33 hin79) (Has.at Hq33 (inb_of Sq33 hin79) rfl) (g := (mkF m 79 #[.val (.ref t0), .val (.ref s0), .val (.ref s1), .val (.ref s1), .val (.int mq), .val (.int (0 : Int32)), .val (.double (0 : UInt64)), .second] [(.int (0 : Int32)), (.ref s1)])) rfl rfl (hb hby d1_79) _ ?_
    show Steps p.tables e below (T31.setTop (mkF m 80 #[.val (.ref t0), .val (.ref s0), .val (.ref s1), .val (.ref s1), .val (.int mq), .val (.int (0 : Int32)), .val (.double (0 : UInt64)), .second] [(.double (0 : UInt64))])) _
    refine XS.dstore X31.here hx rfl (hb hby d1_80) rfl (l' := #[.val (.ref t0), .val (.ref s0), .val (.ref s1), .val (.ref s1), .val (.int mq), .val (.int (0 : Int32)), .val (.double (0 : UInt64)), .second]) rfl ?_
    refine XS.dload X31.here hx rfl (hb hby d1_82) rfl ?_
    show Steps p.tables e below (T31.setTop (mkF m 84 #[.val (.ref t0), .val (.ref s0), .val (.ref s1), .val (.ref s1), .val (.int mq), .val (.int (0 : Int32)), .val (.double (0 : UInt64)), .second] [(.double (0 : UInt64))])) _
    refine st34 _ ?_
    show Steps p.tables e below (T34.setTop (mkF m 87 #[.val (.ref t0), .val (.ref s0), .val (.ref s1), .val (.ref s1), .val (.int mq), .val (.int (0 : Int32)), .val (.double (0 : UInt64)), .second] [(.double (0 : UInt64))])) _
    jvm_step X34.here [X34.here.top, hx, (hb hby d1_87), Value.category]
    show Steps p.tables e below (T34.setTop (mkF m 88 #[.val (.ref t0), .val (.ref s0), .val (.ref s1), .val (.ref s1), .val (.int mq), .val (.int (0 : Int32)), .val (.double (0 : UInt64)), .second] [])) _
    refine XS.iinc X34.here hx rfl (hb hby d1_88) rfl (l' := #[.val (.ref t0), .val (.ref s0), .val (.ref s1), .val (.ref s1), .val (.int mq), .val (.int ((0 : Int32) + (1 : Int32))), .val (.double (0 : UInt64)), .second]) rfl ?_
    show Steps p.tables e below (T34.setTop (mkF m 91 #[.val (.ref t0), .val (.ref s0), .val (.ref s1), .val (.ref s1), .val (.int mq), .val (.int ((0 : Int32) + (1 : Int32))), .val (.double (0 : UInt64)), .second] [])) _
    rw [show ((0 : Int32) + (1 : Int32)) = (1 : Int32) by decide]
    show Steps p.tables e below (T34.setTop (mkF m 91 #[.val (.ref t0), .val (.ref s0), .val (.ref s1), .val (.ref s1), .val (.int mq), .val (.int (1 : Int32)), .val (.double (0 : UInt64)), .second] [])) _
    refine XS.goto X34.here hx rfl (pc0 := 91) (pc' := 69) rfl (hb hby d1_91) (by decide) (by decide) ?_
    refine XS.iload X34.here hx rfl (hb hby d1_69) rfl ?_
    show Steps p.tables e below (T34.setTop (mkF m 71 #[.val (.ref t0), .val (.ref s0), .val (.ref s1), .val (.ref s1), .val (.int mq), .val (.int (1 : Int32)), .val (.double (0 : UInt64)), .second] [(.int (1 : Int32))])) _
    refine XS.iload X34.here hx rfl (hb hby d1_71) rfl ?_
    refine XS.icmpNo X34.here hx rfl (hb hby d1_73) rfl (tlt hc73_1).2.1 ?_
    refine XS.aloadN X34.here hx rfl (hb hby d1_76) rfl rfl ?_
    refine XS.iload X34.here hx rfl (hb hby d1_77) rfl ?_
    refine X34.daload hx (j := (1 : Int32)) (v := (.double (0 : UInt64))) (by rw [e34]; exact Arq35.1) (State.isArrayOf_alike hZ2.alike Arq35.2.1) Arq35.2.2 (inb_of Sq35 hin79_1) (Has.at Hq35 (inb_of Sq35 hin79_1) rfl) (g := (mkF m 79 #[.val (.ref t0), .val (.ref s0), .val (.ref s1), .val (.ref s1), .val (.int mq), .val (.int (1 : Int32)), .val (.double (0 : UInt64)), .second] [(.int (1 : Int32)), (.ref s1)])) rfl rfl (hb hby d1_79) _ ?_
    show Steps p.tables e below (T34.setTop (mkF m 80 #[.val (.ref t0), .val (.ref s0), .val (.ref s1), .val (.ref s1), .val (.int mq), .val (.int (1 : Int32)), .val (.double (0 : UInt64)), .second] [(.double (0 : UInt64))])) _
    refine XS.dstore X34.here hx rfl (hb hby d1_80) rfl (l' := #[.val (.ref t0), .val (.ref s0), .val (.ref s1), .val (.ref s1), .val (.int mq), .val (.int (1 : Int32)), .val (.double (0 : UInt64)), .second]) rfl ?_
    show Steps p.tables e below (T34.setTop (mkF m 82 #[.val (.ref t0), .val (.ref s0), .val (.ref s1), .val (.ref s1), .val (.int mq), .val (.int (1 : Int32)), .val (.double (0 : UInt64)), .second] [])) _
    refine XS.dload X34.here hx rfl (hb hby d1_82) rfl ?_
    refine st36 _ ?_
    show Steps p.tables e below (T36.setTop (mkF m 87 #[.val (.ref t0), .val (.ref s0), .val (.ref s1), .val (.ref s1), .val (.int mq), .val (.int (1 : Int32)), .val (.double (0 : UInt64)), .second] [(.double (0 : UInt64))])) _
    jvm_step X36.here [X36.here.top, hx, (hb hby d1_87), Value.category]
    show Steps p.tables e below (T36.setTop (mkF m 88 #[.val (.ref t0), .val (.ref s0), .val (.ref s1), .val (.ref s1), .val (.int mq), .val (.int (1 : Int32)), .val (.double (0 : UInt64)), .second] [])) _
    refine XS.iinc X36.here hx rfl (hb hby d1_88) rfl (l' := #[.val (.ref t0), .val (.ref s0), .val (.ref s1), .val (.ref s1), .val (.int mq), .val (.int ((1 : Int32) + (1 : Int32))), .val (.double (0 : UInt64)), .second]) rfl ?_
    show Steps p.tables e below (T36.setTop (mkF m 91 #[.val (.ref t0), .val (.ref s0), .val (.ref s1), .val (.ref s1), .val (.int mq), .val (.int ((1 : Int32) + (1 : Int32))), .val (.double (0 : UInt64)), .second] [])) _
    rw [show ((1 : Int32) + (1 : Int32)) = (2 : Int32) by decide]
    show Steps p.tables e below (T36.setTop (mkF m 91 #[.val (.ref t0), .val (.ref s0), .val (.ref s1), .val (.ref s1), .val (.int mq), .val (.int (2 : Int32)), .val (.double (0 : UInt64)), .second] [])) _
    refine XS.goto X36.here hx rfl (pc0 := 91) (pc' := 69) rfl (hb hby d1_91) (by decide) (by decide) ?_
    show Steps p.tables e below (T36.setTop (mkF m 69 #[.val (.ref t0), .val (.ref s0), .val (.ref s1), .val (.ref s1), .val (.int mq), .val (.int (2 : Int32)), .val (.double (0 : UInt64)), .second] [])) _
    refine XS.iload X36.here hx rfl (hb hby d1_69) rfl ?_
    refine XS.iload X36.here hx rfl (hb hby d1_71) rfl ?_
    refine XS.icmpNo X36.here hx rfl (hb hby d1_73) rfl (tlt hc73_2).2.1 ?_
    refine XS.aloadN X36.here hx rfl (hb hby d1_76) rfl rfl ?_
    refine XS.iload X36.here hx rfl (hb hby d1_77) rfl ?_
    refine X36.daload hx (j := (2 : Int32)) (v := (.double (0 : UInt64))) (by rw [e36]; exact Arq37.1) (State.isArrayOf_alike hZ2.alike Arq37.2.1) Arq37.2.2 (inb_of Sq37 hin79_2) (Has.at Hq37 (inb_of Sq37 hin79_2) rfl) (g := (mkF m 79 #[.val (.ref t0), .val (.ref s0), .val (.ref s1), .val (.ref s1), .val (.int mq), .val (.int (2 : Int32)), .val (.double (0 : UInt64)), .second] [(.int (2 : Int32)), (.ref s1)])) rfl rfl (hb hby d1_79) _ ?_
    show Steps p.tables e below (T36.setTop (mkF m 80 #[.val (.ref t0), .val (.ref s0), .val (.ref s1), .val (.ref s1), .val (.int mq), .val (.int (2 : Int32)), .val (.double (0 : UInt64)), .second] [(.double (0 : UInt64))])) _
    refine XS.dstore X36.here hx rfl (hb hby d1_80) rfl (l' := #[.val (.ref t0), .val (.ref s0), .val (.ref s1), .val (.ref s1), .val (.int mq), .val (.int (2 : Int32)), .val (.double (0 : UInt64)), .second]) rfl ?_
    refine XS.dload X36.here hx rfl (hb hby d1_82) rfl ?_
    refine st38 _ ?_
    show Steps p.tables e below (T38.setTop (mkF m 87 #[.val (.ref t0), .val (.ref s0), .val (.ref s1), .val (.ref s1), .val (.int mq), .val (.int (2 : Int32)), .val (.double (0 : UInt64)), .second] [(.double (0 : UInt64))])) _
    jvm_step X38.here [X38.here.top, hx, (hb hby d1_87), Value.category]
    show Steps p.tables e below (T38.setTop (mkF m 88 #[.val (.ref t0), .val (.ref s0), .val (.ref s1), .val (.ref s1), .val (.int mq), .val (.int (2 : Int32)), .val (.double (0 : UInt64)), .second] [])) _
    refine XS.iinc X38.here hx rfl (hb hby d1_88) rfl (l' := #[.val (.ref t0), .val (.ref s0), .val (.ref s1), .val (.ref s1), .val (.int mq), .val (.int ((2 : Int32) + (1 : Int32))), .val (.double (0 : UInt64)), .second]) rfl ?_
    show Steps p.tables e below (T38.setTop (mkF m 91 #[.val (.ref t0), .val (.ref s0), .val (.ref s1), .val (.ref s1), .val (.int mq), .val (.int ((2 : Int32) + (1 : Int32))), .val (.double (0 : UInt64)), .second] [])) _
    rw [show ((2 : Int32) + (1 : Int32)) = (3 : Int32) by decide]
    show Steps p.tables e below (T38.setTop (mkF m 91 #[.val (.ref t0), .val (.ref s0), .val (.ref s1), .val (.ref s1), .val (.int mq), .val (.int (3 : Int32)), .val (.double (0 : UInt64)), .second] [])) _
    refine XS.goto X38.here hx rfl (pc0 := 91) (pc' := 69) rfl (hb hby d1_91) (by decide) (by decide) ?_
    refine XS.iload X38.here hx rfl (hb hby d1_69) rfl ?_
    refine XS.iload X38.here hx rfl (hb hby d1_71) rfl ?_
    refine XS.icmpYes X38.here hx rfl (pc0 := 73) (pc' := 94) rfl (hb hby d1_73) rfl (flt hc73_3).2.1 (by decide) (by decide) ?_
    exact X38.returnOut hx Bd.returns (hb hby d1_94) hr
  · show Q_ini33 Z t0 s0 s1 nq ka mq kb h0 n0 _ T38.heap _
    rw [e38]
    exact ⟨rfl, N38, K18, f19, f20, f24⟩
def Q_iniY (Z : State) (t0 : Addr) (s0 : Addr) (s1 : Addr) (nq : Int32) (ka : ClassId) (mq : Int32) (kb : ClassId) (h0 : Heap) (n0 : Nat) (v : Option Value) (h : Heap) (L : List Loc) : Prop := v = none ∧ Fr n0 L ∧ Keep h0 h [t0] ∧ Exa Z h t0 "com/example/hedge/hedge/RewardStructure" ∧ Fld Z h t0 "com/example/hedge/hedge/RewardStructure" "state" "[D" (.ref s0) ∧ Fld Z h t0 "com/example/hedge/hedge/RewardStructure" "transition" "[D" (.ref s1)
theorem iniY (l : Launch) (Z : State) (a0 : Array Value) (hw : ∀ d ∈ tables_1, d.before a0 Z = true) (ws : List Jvm.Cond) (t0 : Addr) (s0 : Addr) (s1 : Addr) (nq : Int32) (ka : ClassId) (mq : Int32) (kb : ClassId) (h0 : Heap) (n0 : Nat) (Z0 : n0 ≤ h0.size) (E_t0 : Exa Z h0 t0 "com/example/hedge/hedge/RewardStructure") (g_t0 : n0 ≤ t0) (F_state_t0 : Fld Z h0 t0 "com/example/hedge/hedge/RewardStructure" "state" "[D" .null) (F_transition_t0 : Fld Z h0 t0 "com/example/hedge/hedge/RewardStructure" "transition" "[D" .null) (E_s0 : Exa Z h0 s0 "[D") (V_s0 : Arv Z h0 s0 ka .double nq [] (.double (0 : UInt64))) (V_s1 : Arv Z h0 s1 kb .double mq [] (.double (0 : UInt64))) (ne_t0_s0 : t0 ≠ s0) (ne_t0_s1 : t0 ≠ s1) (hcase : ((¬ ((0 : Int32) < nq)) ∧ (¬ ((0 : Int32) < mq))) ∨ ((¬ ((0 : Int32) < nq)) ∧ ((0 : Int32) < mq) ∧ (¬ (0 : Int32) < 0 ∧ (0 : Int32) < mq) ∧ (¬ ((1 : Int32) < mq))) ∨ ((¬ ((0 : Int32) < nq)) ∧ ((0 : Int32) < mq) ∧ (¬ (0 : Int32) < 0 ∧ (0 : Int32) < mq) ∧ ((1 : Int32) < mq) ∧ (¬ (1 : Int32) < 0 ∧ (1 : Int32) < mq) ∧ (¬ ((2 : Int32) < mq))) ∨ ((¬ ((0 : Int32) < nq)) ∧ ((0 : Int32) < mq) ∧ (¬ (0 : Int32) < 0 ∧ (0 : Int32) < mq) ∧ ((1 : Int32) < mq) ∧ (¬ (1 : Int32) < 0 ∧ (1 : Int32) < mq) ∧ ((2 : Int32) < mq) ∧ (¬ (2 : Int32) < 0 ∧ (2 : Int32) < mq) ∧ (¬ ((3 : Int32) < mq))) ∨ (((0 : Int32) < nq) ∧ (¬ (0 : Int32) < 0 ∧ (0 : Int32) < nq) ∧ (¬ ((1 : Int32) < nq)) ∧ (¬ ((0 : Int32) < mq))) ∨ (((0 : Int32) < nq) ∧ (¬ (0 : Int32) < 0 ∧ (0 : Int32) < nq) ∧ (¬ ((1 : Int32) < nq)) ∧ ((0 : Int32) < mq) ∧ (¬ (0 : Int32) < 0 ∧ (0 : Int32) < mq) ∧ (¬ ((1 : Int32) < mq))) ∨ (((0 : Int32) < nq) ∧ (¬ (0 : Int32) < 0 ∧ (0 : Int32) < nq) ∧ (¬ ((1 : Int32) < nq)) ∧ ((0 : Int32) < mq) ∧ (¬ (0 : Int32) < 0 ∧ (0 : Int32) < mq) ∧ ((1 : Int32) < mq) ∧ (¬ (1 : Int32) < 0 ∧ (1 : Int32) < mq) ∧ (¬ ((2 : Int32) < mq))) ∨ (((0 : Int32) < nq) ∧ (¬ (0 : Int32) < 0 ∧ (0 : Int32) < nq) ∧ (¬ ((1 : Int32) < nq)) ∧ ((0 : Int32) < mq) ∧ (¬ (0 : Int32) < 0 ∧ (0 : Int32) < mq) ∧ ((1 : Int32) < mq) ∧ (¬ (1 : Int32) < 0 ∧ (1 : Int32) < mq) ∧ ((2 : Int32) < mq) ∧ (¬ (2 : Int32) < 0 ∧ (2 : Int32) < mq) ∧ (¬ ((3 : Int32) < mq))) ∨ (((0 : Int32) < nq) ∧ (¬ (0 : Int32) < 0 ∧ (0 : Int32) < nq) ∧ ((1 : Int32) < nq) ∧ (¬ (1 : Int32) < 0 ∧ (1 : Int32) < nq) ∧ (¬ ((2 : Int32) < nq)) ∧ (¬ ((0 : Int32) < mq))) ∨ (((0 : Int32) < nq) ∧ (¬ (0 : Int32) < 0 ∧ (0 : Int32) < nq) ∧ ((1 : Int32) < nq) ∧ (¬ (1 : Int32) < 0 ∧ (1 : Int32) < nq) ∧ (¬ ((2 : Int32) < nq)) ∧ ((0 : Int32) < mq) ∧ (¬ (0 : Int32) < 0 ∧ (0 : Int32) < mq) ∧ (¬ ((1 : Int32) < mq))) ∨ (((0 : Int32) < nq) ∧ (¬ (0 : Int32) < 0 ∧ (0 : Int32) < nq) ∧ ((1 : Int32) < nq) ∧ (¬ (1 : Int32) < 0 ∧ (1 : Int32) < nq) ∧ (¬ ((2 : Int32) < nq)) ∧ ((0 : Int32) < mq) ∧ (¬ (0 : Int32) < 0 ∧ (0 : Int32) < mq) ∧ ((1 : Int32) < mq) ∧ (¬ (1 : Int32) < 0 ∧ (1 : Int32) < mq) ∧ (¬ ((2 : Int32) < mq))) ∨ (((0 : Int32) < nq) ∧ (¬ (0 : Int32) < 0 ∧ (0 : Int32) < nq) ∧ ((1 : Int32) < nq) ∧ (¬ (1 : Int32) < 0 ∧ (1 : Int32) < nq) ∧ (¬ ((2 : Int32) < nq)) ∧ ((0 : Int32) < mq) ∧ (¬ (0 : Int32) < 0 ∧ (0 : Int32) < mq) ∧ ((1 : Int32) < mq) ∧ (¬ (1 : Int32) < 0 ∧ (1 : Int32) < mq) ∧ ((2 : Int32) < mq) ∧ (¬ (2 : Int32) < 0 ∧ (2 : Int32) < mq) ∧ (¬ ((3 : Int32) < mq))) ∨ (((0 : Int32) < nq) ∧ (¬ (0 : Int32) < 0 ∧ (0 : Int32) < nq) ∧ ((1 : Int32) < nq) ∧ (¬ (1 : Int32) < 0 ∧ (1 : Int32) < nq) ∧ ((2 : Int32) < nq) ∧ (¬ (2 : Int32) < 0 ∧ (2 : Int32) < nq) ∧ (¬ ((3 : Int32) < nq)) ∧ (¬ ((0 : Int32) < mq))) ∨ (((0 : Int32) < nq) ∧ (¬ (0 : Int32) < 0 ∧ (0 : Int32) < nq) ∧ ((1 : Int32) < nq) ∧ (¬ (1 : Int32) < 0 ∧ (1 : Int32) < nq) ∧ ((2 : Int32) < nq) ∧ (¬ (2 : Int32) < 0 ∧ (2 : Int32) < nq) ∧ (¬ ((3 : Int32) < nq)) ∧ ((0 : Int32) < mq) ∧ (¬ (0 : Int32) < 0 ∧ (0 : Int32) < mq) ∧ (¬ ((1 : Int32) < mq))) ∨ (((0 : Int32) < nq) ∧ (¬ (0 : Int32) < 0 ∧ (0 : Int32) < nq) ∧ ((1 : Int32) < nq) ∧ (¬ (1 : Int32) < 0 ∧ (1 : Int32) < nq) ∧ ((2 : Int32) < nq) ∧ (¬ (2 : Int32) < 0 ∧ (2 : Int32) < nq) ∧ (¬ ((3 : Int32) < nq)) ∧ ((0 : Int32) < mq) ∧ (¬ (0 : Int32) < 0 ∧ (0 : Int32) < mq) ∧ ((1 : Int32) < mq) ∧ (¬ (1 : Int32) < 0 ∧ (1 : Int32) < mq) ∧ (¬ ((2 : Int32) < mq))) ∨ (((0 : Int32) < nq) ∧ (¬ (0 : Int32) < 0 ∧ (0 : Int32) < nq) ∧ ((1 : Int32) < nq) ∧ (¬ (1 : Int32) < 0 ∧ (1 : Int32) < nq) ∧ ((2 : Int32) < nq) ∧ (¬ (2 : Int32) < 0 ∧ (2 : Int32) < nq) ∧ (¬ ((3 : Int32) < nq)) ∧ ((0 : Int32) < mq) ∧ (¬ (0 : Int32) < 0 ∧ (0 : Int32) < mq) ∧ ((1 : Int32) < mq) ∧ (¬ (1 : Int32) < 0 ∧ (1 : Int32) < mq) ∧ ((2 : Int32) < mq) ∧ (¬ (2 : Int32) < 0 ∧ (2 : Int32) < mq) ∧ (¬ ((3 : Int32) < mq)))) :
    MetFree l (⟨"com/example/hedge/hedge/RewardStructure", "<init>", "([D[D)V"⟩ : MethodName) (head1 (Jvm.Cond.code (⟨"com/example/hedge/hedge/RewardStructure", "<init>", "([D[D)V"⟩ : MethodName) prog_30_method_1_code 8 none :: ws) ({ frames := 1, cells := 2, slots := 24, locals := 14 } : Room)) (fun a U => a = #[(.ref t0), (.ref s0), (.ref s1)] ∧ Z.Warmed39 U.vm ∧ U.heap = h0) (fun _ _ _ _ _ => True) (fun _ U o U' => ∃ v L, o = .returned v ∧ Q_iniY Z t0 s0 s1 nq ka mq kb h0 n0 v U'.heap L ∧ ReturnedEndW U o U' L ({ frames := 1, cells := 2, slots := 24, locals := 14 } : Room).cells ({ frames := 1, cells := 2, slots := 24, locals := 14 } : Room).slots) := by
  rcases hcase with ⟨h_hc35, h_hc73⟩ | ⟨h_hc35, h_hc73, h_hin79, h_hc73_1⟩ | ⟨h_hc35, h_hc73, h_hin79, h_hc73_1, h_hin79_1, h_hc73_2⟩ | ⟨h_hc35, h_hc73, h_hin79, h_hc73_1, h_hin79_1, h_hc73_2, h_hin79_2, h_hc73_3⟩ | ⟨h_hc35, h_hin41, h_hc35_1, h_hc73⟩ | ⟨h_hc35, h_hin41, h_hc35_1, h_hc73, h_hin79, h_hc73_1⟩ | ⟨h_hc35, h_hin41, h_hc35_1, h_hc73, h_hin79, h_hc73_1, h_hin79_1, h_hc73_2⟩ | ⟨h_hc35, h_hin41, h_hc35_1, h_hc73, h_hin79, h_hc73_1, h_hin79_1, h_hc73_2, h_hin79_2, h_hc73_3⟩ | ⟨h_hc35, h_hin41, h_hc35_1, h_hin41_1, h_hc35_2, h_hc73⟩ | ⟨h_hc35, h_hin41, h_hc35_1, h_hin41_1, h_hc35_2, h_hc73, h_hin79, h_hc73_1⟩ | ⟨h_hc35, h_hin41, h_hc35_1, h_hin41_1, h_hc35_2, h_hc73, h_hin79, h_hc73_1, h_hin79_1, h_hc73_2⟩ | ⟨h_hc35, h_hin41, h_hc35_1, h_hin41_1, h_hc35_2, h_hc73, h_hin79, h_hc73_1, h_hin79_1, h_hc73_2, h_hin79_2, h_hc73_3⟩ | ⟨h_hc35, h_hin41, h_hc35_1, h_hin41_1, h_hc35_2, h_hin41_2, h_hc35_3, h_hc73⟩ | ⟨h_hc35, h_hin41, h_hc35_1, h_hin41_1, h_hc35_2, h_hin41_2, h_hc35_3, h_hc73, h_hin79, h_hc73_1⟩ | ⟨h_hc35, h_hin41, h_hc35_1, h_hin41_1, h_hc35_2, h_hin41_2, h_hc35_3, h_hc73, h_hin79, h_hc73_1, h_hin79_1, h_hc73_2⟩ | ⟨h_hc35, h_hin41, h_hc35_1, h_hin41_1, h_hc35_2, h_hin41_2, h_hc35_3, h_hc73, h_hin79, h_hc73_1, h_hin79_1, h_hc73_2, h_hin79_2, h_hc73_3⟩
  · exact ini00 l Z a0 hw ws t0 s0 s1 nq ka mq kb h0 n0 Z0 (E_t0 := E_t0) (g_t0 := g_t0) (F_state_t0 := F_state_t0) (F_transition_t0 := F_transition_t0) (E_s0 := E_s0) (V_s0 := V_s0) (V_s1 := V_s1) (ne_t0_s0 := ne_t0_s0) (ne_t0_s1 := ne_t0_s1) (hc35 := h_hc35) (hc73 := h_hc73)
  · exact ini01 l Z a0 hw ws t0 s0 s1 nq ka mq kb h0 n0 Z0 (E_t0 := E_t0) (g_t0 := g_t0) (F_state_t0 := F_state_t0) (F_transition_t0 := F_transition_t0) (E_s0 := E_s0) (V_s0 := V_s0) (V_s1 := V_s1) (ne_t0_s0 := ne_t0_s0) (ne_t0_s1 := ne_t0_s1) (hc35 := h_hc35) (hc73 := h_hc73) (hin79 := h_hin79) (hc73_1 := h_hc73_1)
  · exact ini02 l Z a0 hw ws t0 s0 s1 nq ka mq kb h0 n0 Z0 (E_t0 := E_t0) (g_t0 := g_t0) (F_state_t0 := F_state_t0) (F_transition_t0 := F_transition_t0) (E_s0 := E_s0) (V_s0 := V_s0) (V_s1 := V_s1) (ne_t0_s0 := ne_t0_s0) (ne_t0_s1 := ne_t0_s1) (hc35 := h_hc35) (hc73 := h_hc73) (hin79 := h_hin79) (hc73_1 := h_hc73_1) (hin79_1 := h_hin79_1) (hc73_2 := h_hc73_2)
  · exact ini03 l Z a0 hw ws t0 s0 s1 nq ka mq kb h0 n0 Z0 (E_t0 := E_t0) (g_t0 := g_t0) (F_state_t0 := F_state_t0) (F_transition_t0 := F_transition_t0) (E_s0 := E_s0) (V_s0 := V_s0) (V_s1 := V_s1) (ne_t0_s0 := ne_t0_s0) (ne_t0_s1 := ne_t0_s1) (hc35 := h_hc35) (hc73 := h_hc73) (hin79 := h_hin79) (hc73_1 := h_hc73_1) (hin79_1 := h_hin79_1) (hc73_2 := h_hc73_2) (hin79_2 := h_hin79_2) (hc73_3 := h_hc73_3)
  · exact ini10 l Z a0 hw ws t0 s0 s1 nq ka mq kb h0 n0 Z0 (E_t0 := E_t0) (g_t0 := g_t0) (F_state_t0 := F_state_t0) (F_transition_t0 := F_transition_t0) (E_s0 := E_s0) (V_s0 := V_s0) (V_s1 := V_s1) (ne_t0_s0 := ne_t0_s0) (ne_t0_s1 := ne_t0_s1) (hc35 := h_hc35) (hin41 := h_hin41) (hc35_1 := h_hc35_1) (hc73 := h_hc73)
  · exact ini11 l Z a0 hw ws t0 s0 s1 nq ka mq kb h0 n0 Z0 (E_t0 := E_t0) (g_t0 := g_t0) (F_state_t0 := F_state_t0) (F_transition_t0 := F_transition_t0) (E_s0 := E_s0) (V_s0 := V_s0) (V_s1 := V_s1) (ne_t0_s0 := ne_t0_s0) (ne_t0_s1 := ne_t0_s1) (hc35 := h_hc35) (hin41 := h_hin41) (hc35_1 := h_hc35_1) (hc73 := h_hc73) (hin79 := h_hin79) (hc73_1 := h_hc73_1)
  · exact ini12 l Z a0 hw ws t0 s0 s1 nq ka mq kb h0 n0 Z0 (E_t0 := E_t0) (g_t0 := g_t0) (F_state_t0 := F_state_t0) (F_transition_t0 := F_transition_t0) (E_s0 := E_s0) (V_s0 := V_s0) (V_s1 := V_s1) (ne_t0_s0 := ne_t0_s0) (ne_t0_s1 := ne_t0_s1) (hc35 := h_hc35) (hin41 := h_hin41) (hc35_1 := h_hc35_1) (hc73 := h_hc73) (hin79 := h_hin79) (hc73_1 := h_hc73_1) (hin79_1 := h_hin79_1) (hc73_2 := h_hc73_2)
  · exact ini13 l Z a0 hw ws t0 s0 s1 nq ka mq kb h0 n0 Z0 (E_t0 := E_t0) (g_t0 := g_t0) (F_state_t0 := F_state_t0) (F_transition_t0 := F_transition_t0) (E_s0 := E_s0) (V_s0 := V_s0) (V_s1 := V_s1) (ne_t0_s0 := ne_t0_s0) (ne_t0_s1 := ne_t0_s1) (hc35 := h_hc35) (hin41 := h_hin41) (hc35_1 := h_hc35_1) (hc73 := h_hc73) (hin79 := h_hin79) (hc73_1 := h_hc73_1) (hin79_1 := h_hin79_1) (hc73_2 := h_hc73_2) (hin79_2 := h_hin79_2) (hc73_3 := h_hc73_3)
  · exact ini20 l Z a0 hw ws t0 s0 s1 nq ka mq kb h0 n0 Z0 (E_t0 := E_t0) (g_t0 := g_t0) (F_state_t0 := F_state_t0) (F_transition_t0 := F_transition_t0) (E_s0 := E_s0) (V_s0 := V_s0) (V_s1 := V_s1) (ne_t0_s0 := ne_t0_s0) (ne_t0_s1 := ne_t0_s1) (hc35 := h_hc35) (hin41 := h_hin41) (hc35_1 := h_hc35_1) (hin41_1 := h_hin41_1) (hc35_2 := h_hc35_2) (hc73 := h_hc73)
  · exact ini21 l Z a0 hw ws t0 s0 s1 nq ka mq kb h0 n0 Z0 (E_t0 := E_t0) (g_t0 := g_t0) (F_state_t0 := F_state_t0) (F_transition_t0 := F_transition_t0) (E_s0 := E_s0) (V_s0 := V_s0) (V_s1 := V_s1) (ne_t0_s0 := ne_t0_s0) (ne_t0_s1 := ne_t0_s1) (hc35 := h_hc35) (hin41 := h_hin41) (hc35_1 := h_hc35_1) (hin41_1 := h_hin41_1) (hc35_2 := h_hc35_2) (hc73 := h_hc73) (hin79 := h_hin79) (hc73_1 := h_hc73_1)
  · exact ini22 l Z a0 hw ws t0 s0 s1 nq ka mq kb h0 n0 Z0 (E_t0 := E_t0) (g_t0 := g_t0) (F_state_t0 := F_state_t0) (F_transition_t0 := F_transition_t0) (E_s0 := E_s0) (V_s0 := V_s0) (V_s1 := V_s1) (ne_t0_s0 := ne_t0_s0) (ne_t0_s1 := ne_t0_s1) (hc35 := h_hc35) (hin41 := h_hin41) (hc35_1 := h_hc35_1) (hin41_1 := h_hin41_1) (hc35_2 := h_hc35_2) (hc73 := h_hc73) (hin79 := h_hin79) (hc73_1 := h_hc73_1) (hin79_1 := h_hin79_1) (hc73_2 := h_hc73_2)
  · exact ini23 l Z a0 hw ws t0 s0 s1 nq ka mq kb h0 n0 Z0 (E_t0 := E_t0) (g_t0 := g_t0) (F_state_t0 := F_state_t0) (F_transition_t0 := F_transition_t0) (E_s0 := E_s0) (V_s0 := V_s0) (V_s1 := V_s1) (ne_t0_s0 := ne_t0_s0) (ne_t0_s1 := ne_t0_s1) (hc35 := h_hc35) (hin41 := h_hin41) (hc35_1 := h_hc35_1) (hin41_1 := h_hin41_1) (hc35_2 := h_hc35_2) (hc73 := h_hc73) (hin79 := h_hin79) (hc73_1 := h_hc73_1) (hin79_1 := h_hin79_1) (hc73_2 := h_hc73_2) (hin79_2 := h_hin79_2) (hc73_3 := h_hc73_3)
  · exact ini30 l Z a0 hw ws t0 s0 s1 nq ka mq kb h0 n0 Z0 (E_t0 := E_t0) (g_t0 := g_t0) (F_state_t0 := F_state_t0) (F_transition_t0 := F_transition_t0) (E_s0 := E_s0) (V_s0 := V_s0) (V_s1 := V_s1) (ne_t0_s0 := ne_t0_s0) (ne_t0_s1 := ne_t0_s1) (hc35 := h_hc35) (hin41 := h_hin41) (hc35_1 := h_hc35_1) (hin41_1 := h_hin41_1) (hc35_2 := h_hc35_2) (hin41_2 := h_hin41_2) (hc35_3 := h_hc35_3) (hc73 := h_hc73)
  · exact ini31 l Z a0 hw ws t0 s0 s1 nq ka mq kb h0 n0 Z0 (E_t0 := E_t0) (g_t0 := g_t0) (F_state_t0 := F_state_t0) (F_transition_t0 := F_transition_t0) (E_s0 := E_s0) (V_s0 := V_s0) (V_s1 := V_s1) (ne_t0_s0 := ne_t0_s0) (ne_t0_s1 := ne_t0_s1) (hc35 := h_hc35) (hin41 := h_hin41) (hc35_1 := h_hc35_1) (hin41_1 := h_hin41_1) (hc35_2 := h_hc35_2) (hin41_2 := h_hin41_2) (hc35_3 := h_hc35_3) (hc73 := h_hc73) (hin79 := h_hin79) (hc73_1 := h_hc73_1)
  · exact ini32 l Z a0 hw ws t0 s0 s1 nq ka mq kb h0 n0 Z0 (E_t0 := E_t0) (g_t0 := g_t0) (F_state_t0 := F_state_t0) (F_transition_t0 := F_transition_t0) (E_s0 := E_s0) (V_s0 := V_s0) (V_s1 := V_s1) (ne_t0_s0 := ne_t0_s0) (ne_t0_s1 := ne_t0_s1) (hc35 := h_hc35) (hin41 := h_hin41) (hc35_1 := h_hc35_1) (hin41_1 := h_hin41_1) (hc35_2 := h_hc35_2) (hin41_2 := h_hin41_2) (hc35_3 := h_hc35_3) (hc73 := h_hc73) (hin79 := h_hin79) (hc73_1 := h_hc73_1) (hin79_1 := h_hin79_1) (hc73_2 := h_hc73_2)
  · exact ini33 l Z a0 hw ws t0 s0 s1 nq ka mq kb h0 n0 Z0 (E_t0 := E_t0) (g_t0 := g_t0) (F_state_t0 := F_state_t0) (F_transition_t0 := F_transition_t0) (E_s0 := E_s0) (V_s0 := V_s0) (V_s1 := V_s1) (ne_t0_s0 := ne_t0_s0) (ne_t0_s1 := ne_t0_s1) (hc35 := h_hc35) (hin41 := h_hin41) (hc35_1 := h_hc35_1) (hin41_1 := h_hin41_1) (hc35_2 := h_hc35_2) (hin41_2 := h_hin41_2) (hc35_3 := h_hc35_3) (hc73 := h_hc73) (hin79 := h_hin79) (hc73_1 := h_hc73_1) (hin79_1 := h_hin79_1) (hc73_2 := h_hc73_2) (hin79_2 := h_hin79_2) (hc73_3 := h_hc73_3)
theorem d4_0 : decode prog_30_method_6_code 0 = .ok (.aload_n 0, 1) := by decide +kernel
theorem d4_1 : decode prog_30_method_6_code 1 = .ok (.getfield 17, 3) := by decide +kernel
theorem d4_4 : decode prog_30_method_6_code 4 = .ok (.arraylength, 1) := by decide +kernel
theorem d4_5 : decode prog_30_method_6_code 5 = .ok (.iload_n 1, 1) := by decide +kernel
theorem d4_6 : decode prog_30_method_6_code 6 = .ok (.if_icmp .ne 23, 3) := by decide +kernel
theorem d4_9 : decode prog_30_method_6_code 9 = .ok (.aload_n 0, 1) := by decide +kernel
theorem d4_10 : decode prog_30_method_6_code 10 = .ok (.getfield 21, 3) := by decide +kernel
theorem d4_13 : decode prog_30_method_6_code 13 = .ok (.ifnull 12, 3) := by decide +kernel
theorem d4_25 : decode prog_30_method_6_code 25 = .ok (.iconst 1, 1) := by decide +kernel
theorem d4_26 : decode prog_30_method_6_code 26 = .ok (.goto 4, 3) := by decide +kernel
theorem d4_30 : decode prog_30_method_6_code 30 = .ok (.ireturn, 1) := by decide +kernel
theorem ef_4_RII (m : MethodId) (x0 : Addr) (x1 : Int32) (x2 : Int32) : entryFrame m #[(.ref x0), (.int x1), (.int x2)] 3 = mkF m 0 #[.val (.ref x0), .val (.int x1), .val (.int x2)] [] := by first | (simp [entryFrame, mkF, argsToLocals, Value.category]; done) | rfl
def Q_fNa (Z : State) (t0 : Addr) (sq : Int32) (tq : Int32) (s0 : Addr) (nq : Int32) (ka : ClassId) (h0 : Heap) (n0 : Nat) (v : Option Value) (h : Heap) (L : List Loc) : Prop := v = some (.int (1 : Int32)) ∧ Fr n0 L ∧ h = h0
set_option maxRecDepth 65536 in
set_option maxHeartbeats 40000000 in
theorem fNa (l : Launch) (Z : State) (a0 : Array Value) (hw : ∀ d ∈ tables_1, d.before a0 Z = true) (ws : List Jvm.Cond) (t0 : Addr) (sq : Int32) (tq : Int32) (s0 : Addr) (nq : Int32) (ka : ClassId) (h0 : Heap) (n0 : Nat) (Z0 : n0 ≤ h0.size) (F_state_t0 : Fld Z h0 t0 "com/example/hedge/hedge/RewardStructure" "state" "[D" (.ref s0)) (F_transition_t0 : Fld Z h0 t0 "com/example/hedge/hedge/RewardStructure" "transition" "[D" .null) (V_s0 : Arv Z h0 s0 ka .double nq [] (.double (0 : UInt64))) (hc6 : nq = sq) :
    MetFree l (⟨"com/example/hedge/hedge/RewardStructure", "fits", "(II)Z"⟩ : MethodName) (head1 (Jvm.Cond.code (⟨"com/example/hedge/hedge/RewardStructure", "fits", "(II)Z"⟩ : MethodName) prog_30_method_6_code 3 (some .boolean) :: ws) ({ frames := 0, cells := 0, slots := 0, locals := 0 } : Room)) (fun a U => a = #[(.ref t0), (.int sq), (.int tq)] ∧ Z.Warmed39 U.vm ∧ U.heap = h0) (fun _ _ _ _ _ => True) (fun _ U o U' => ∃ v L, o = .returned v ∧ Q_fNa Z t0 sq tq s0 nq ka h0 n0 v U'.heap L ∧ FrameEnd U o U' L ({ frames := 0, cells := 0, slots := 0, locals := 0 } : Room).cells ({ frames := 0, cells := 0, slots := 0, locals := 0 } : Room).slots) := by
  refine MetFree.of_bodySF (plainFor_of_name pn_com_example_hedge_hedge_RewardStructure) hisR ?_
  intro p e s m args below meth c s₁ Bd hml0 hP hK
  obtain ⟨rfl, hZ, hh⟩ := hP
  have hx := Bd.exec
  have hby := Bd.bytes
  have hml : c.maxLocals = 3 := hml0
  have hown : s.vm.findClass "com/example/hedge/hedge/RewardStructure" = some m.cls := findClass_of_methodNamed Bd.named
  have hnm := (name_of_methodNamed Bd.named Bd.method).1
  have X0 : Stand p l e ({ frames := 0, cells := 0, slots := 0, locals := 0 } : Room) s m #[(.ref t0), (.int sq), (.int tq)] below meth c s₁ [] 0 0 := Stand.of_body Bd
  have e0 : s₁.heap = h0 := by rw [← hh, Bd.state]; rfl
  have N0 := Fr.nil n0
  have pre0 : ∀ t, Steps p.tables e below (s₁.setTop (mkF m 0 #[.val (.ref t0), .val (.int sq), .val (.int tq)] [])) t → Steps p.tables e below (s₁.setTop (entryFrame m #[(.ref t0), (.int sq), (.int tq)] 3)) t := fun t k => castTop (ef_4_RII m t0 sq tq) k
  obtain ⟨T1, X1, e1, st1⟩ := getF X0 hx hZ hown (host := "") (Or.inl (hw _ (List.mem_of_getElem? (i := 24) rfl))) Via.refl e0 F_state_t0 (g := (mkF m 1 #[.val (.ref t0), .val (.int sq), .val (.int tq)] [(.ref t0)])) rfl rfl (hb hby d4_1)
  obtain ⟨cq2, Arq2, -, Sq2, Nq2, -, -⟩ := id V_s0
  obtain ⟨T3, X3, e3, st3⟩ := getF X1 hx hZ hown (host := "") (Or.inl (hw _ (List.mem_of_getElem? (i := 26) rfl))) Via.refl e1 F_transition_t0 (g := (mkF m 10 #[.val (.ref t0), .val (.int sq), .val (.int tq)] [(.ref t0)])) rfl rfl (hb hby d4_10)
  obtain ⟨fs, hr, hrun, hended, hW, hsame⟩ := X3.leave (v := some (.int (1 : Int32))) (fun h => by rw [Bd.returns] at h; cases h)
  refine ⟨_, _, pre0 _ ?_, hrun, hended, _, _, rfl, ?_, ⟨_, rfl⟩, hW, hsame.mono (by decide) (by decide)⟩
  · show Steps p.tables e below (s₁.setTop (mkF m 0 #[.val (.ref t0), .val (.int sq), .val (.int tq)] [])) _
    refine XS.aloadN X0.here hx rfl (hb hby d4_0) rfl rfl ?_
    refine st1 _ ?_
    show Steps p.tables e below (T1.setTop (mkF m 4 #[.val (.ref t0), .val (.int sq), .val (.int tq)] [(.ref s0)])) _
    refine X1.arraylength hx (by rw [e1]; exact Arq2.1) (State.isArrayOf_alike hZ.alike Arq2.2.1) (g := (mkF m 4 #[.val (.ref t0), .val (.int sq), .val (.int tq)] [(.ref s0)])) rfl rfl (hb hby d4_4) _ ?_
    rw [len_of Sq2 Nq2]
    show Steps p.tables e below (T1.setTop (mkF m 5 #[.val (.ref t0), .val (.int sq), .val (.int tq)] [(.int nq)])) _
    refine XS.iloadN X1.here hx rfl (hb hby d4_5) rfl ?_
    refine XS.icmpNo X1.here hx rfl (hb hby d4_6) rfl (teq hc6).2 ?_
    show Steps p.tables e below (T1.setTop (mkF m 9 #[.val (.ref t0), .val (.int sq), .val (.int tq)] [])) _
    refine XS.aloadN X1.here hx rfl (hb hby d4_9) rfl rfl ?_
    refine st3 _ ?_
    show Steps p.tables e below (T3.setTop (mkF m 13 #[.val (.ref t0), .val (.int sq), .val (.int tq)] [.null])) _
    refine XS.ifnullYes X3.here hx rfl (pc0 := 13) (pc' := 25) rfl (hb hby d4_13) rfl (by decide) (by decide) ?_
    refine XS.iconst X3.here hx rfl (hb hby d4_25) ?_
    refine XS.goto X3.here hx rfl (pc0 := 26) (pc' := 30) rfl (hb hby d4_26) (by decide) (by decide) ?_
    exact retN X3 hx (t := .boolean) Bd.returns (by simp) (hb hby d4_30) hr
  · show Q_fNa Z t0 sq tq s0 nq ka h0 n0 _ T3.heap _
    rw [e3]
    exact ⟨rfl, N0, rfl⟩
theorem d4_29 : decode prog_30_method_6_code 29 = .ok (.iconst 0, 1) := by decide +kernel
def Q_fNb (Z : State) (t0 : Addr) (sq : Int32) (tq : Int32) (s0 : Addr) (nq : Int32) (ka : ClassId) (h0 : Heap) (n0 : Nat) (v : Option Value) (h : Heap) (L : List Loc) : Prop := v = some (.int (0 : Int32)) ∧ Fr n0 L ∧ h = h0
set_option maxRecDepth 65536 in
set_option maxHeartbeats 40000000 in
theorem fNb (l : Launch) (Z : State) (a0 : Array Value) (hw : ∀ d ∈ tables_1, d.before a0 Z = true) (ws : List Jvm.Cond) (t0 : Addr) (sq : Int32) (tq : Int32) (s0 : Addr) (nq : Int32) (ka : ClassId) (h0 : Heap) (n0 : Nat) (Z0 : n0 ≤ h0.size) (F_state_t0 : Fld Z h0 t0 "com/example/hedge/hedge/RewardStructure" "state" "[D" (.ref s0)) (F_transition_t0 : Fld Z h0 t0 "com/example/hedge/hedge/RewardStructure" "transition" "[D" .null) (V_s0 : Arv Z h0 s0 ka .double nq [] (.double (0 : UInt64))) (hc6 : ¬ (nq = sq)) :
    MetFree l (⟨"com/example/hedge/hedge/RewardStructure", "fits", "(II)Z"⟩ : MethodName) (head1 (Jvm.Cond.code (⟨"com/example/hedge/hedge/RewardStructure", "fits", "(II)Z"⟩ : MethodName) prog_30_method_6_code 3 (some .boolean) :: ws) ({ frames := 0, cells := 0, slots := 0, locals := 0 } : Room)) (fun a U => a = #[(.ref t0), (.int sq), (.int tq)] ∧ Z.Warmed39 U.vm ∧ U.heap = h0) (fun _ _ _ _ _ => True) (fun _ U o U' => ∃ v L, o = .returned v ∧ Q_fNb Z t0 sq tq s0 nq ka h0 n0 v U'.heap L ∧ FrameEnd U o U' L ({ frames := 0, cells := 0, slots := 0, locals := 0 } : Room).cells ({ frames := 0, cells := 0, slots := 0, locals := 0 } : Room).slots) := by
  refine MetFree.of_bodySF (plainFor_of_name pn_com_example_hedge_hedge_RewardStructure) hisR ?_
  intro p e s m args below meth c s₁ Bd hml0 hP hK
  obtain ⟨rfl, hZ, hh⟩ := hP
  have hx := Bd.exec
  have hby := Bd.bytes
  have hml : c.maxLocals = 3 := hml0
  have hown : s.vm.findClass "com/example/hedge/hedge/RewardStructure" = some m.cls := findClass_of_methodNamed Bd.named
  have hnm := (name_of_methodNamed Bd.named Bd.method).1
  have X0 : Stand p l e ({ frames := 0, cells := 0, slots := 0, locals := 0 } : Room) s m #[(.ref t0), (.int sq), (.int tq)] below meth c s₁ [] 0 0 := Stand.of_body Bd
  have e0 : s₁.heap = h0 := by rw [← hh, Bd.state]; rfl
  have N0 := Fr.nil n0
  have pre0 : ∀ t, Steps p.tables e below (s₁.setTop (mkF m 0 #[.val (.ref t0), .val (.int sq), .val (.int tq)] [])) t → Steps p.tables e below (s₁.setTop (entryFrame m #[(.ref t0), (.int sq), (.int tq)] 3)) t := fun t k => castTop (ef_4_RII m t0 sq tq) k
  obtain ⟨T1, X1, e1, st1⟩ := getF X0 hx hZ hown (host := "") (Or.inl (hw _ (List.mem_of_getElem? (i := 24) rfl))) Via.refl e0 F_state_t0 (g := (mkF m 1 #[.val (.ref t0), .val (.int sq), .val (.int tq)] [(.ref t0)])) rfl rfl (hb hby d4_1)
  obtain ⟨cq2, Arq2, -, Sq2, Nq2, -, -⟩ := id V_s0
  obtain ⟨fs, hr, hrun, hended, hW, hsame⟩ := X1.leave (v := some (.int (0 : Int32))) (fun h => by rw [Bd.returns] at h; cases h)
  refine ⟨_, _, pre0 _ ?_, hrun, hended, _, _, rfl, ?_, ⟨_, rfl⟩, hW, hsame.mono (by decide) (by decide)⟩
  · show Steps p.tables e below (s₁.setTop (mkF m 0 #[.val (.ref t0), .val (.int sq), .val (.int tq)] [])) _
    refine XS.aloadN X0.here hx rfl (hb hby d4_0) rfl rfl ?_
    refine st1 _ ?_
    show Steps p.tables e below (T1.setTop (mkF m 4 #[.val (.ref t0), .val (.int sq), .val (.int tq)] [(.ref s0)])) _
    refine X1.arraylength hx (by rw [e1]; exact Arq2.1) (State.isArrayOf_alike hZ.alike Arq2.2.1) (g := (mkF m 4 #[.val (.ref t0), .val (.int sq), .val (.int tq)] [(.ref s0)])) rfl rfl (hb hby d4_4) _ ?_
    rw [len_of Sq2 Nq2]
    show Steps p.tables e below (T1.setTop (mkF m 5 #[.val (.ref t0), .val (.int sq), .val (.int tq)] [(.int nq)])) _
    refine XS.iloadN X1.here hx rfl (hb hby d4_5) rfl ?_
    refine XS.icmpYes X1.here hx rfl (pc0 := 6) (pc' := 29) rfl (hb hby d4_6) rfl (feq hc6).2 (by decide) (by decide) ?_
    show Steps p.tables e below (T1.setTop (mkF m 29 #[.val (.ref t0), .val (.int sq), .val (.int tq)] [])) _
    refine XS.iconst X1.here hx rfl (hb hby d4_29) ?_
    exact retN X1 hx (t := .boolean) Bd.returns (by simp) (hb hby d4_30) hr
  · show Q_fNb Z t0 sq tq s0 nq ka h0 n0 _ T1.heap _
    rw [e1]
    exact ⟨rfl, N0, rfl⟩
def Q_fYa (Z : State) (t0 : Addr) (sq : Int32) (tq : Int32) (s0 : Addr) (s1 : Addr) (nq : Int32) (ka : ClassId) (mq : Int32) (kb : ClassId) (h0 : Heap) (n0 : Nat) (v : Option Value) (h : Heap) (L : List Loc) : Prop := v = some (.int (0 : Int32)) ∧ Fr n0 L ∧ h = h0
set_option maxRecDepth 65536 in
set_option maxHeartbeats 40000000 in
theorem fYa (l : Launch) (Z : State) (a0 : Array Value) (hw : ∀ d ∈ tables_1, d.before a0 Z = true) (ws : List Jvm.Cond) (t0 : Addr) (sq : Int32) (tq : Int32) (s0 : Addr) (s1 : Addr) (nq : Int32) (ka : ClassId) (mq : Int32) (kb : ClassId) (h0 : Heap) (n0 : Nat) (Z0 : n0 ≤ h0.size) (F_state_t0 : Fld Z h0 t0 "com/example/hedge/hedge/RewardStructure" "state" "[D" (.ref s0)) (F_transition_t0 : Fld Z h0 t0 "com/example/hedge/hedge/RewardStructure" "transition" "[D" (.ref s1)) (V_s0 : Arv Z h0 s0 ka .double nq [] (.double (0 : UInt64))) (V_s1 : Arv Z h0 s1 kb .double mq [] (.double (0 : UInt64))) (hc6 : ¬ (nq = sq)) :
    MetFree l (⟨"com/example/hedge/hedge/RewardStructure", "fits", "(II)Z"⟩ : MethodName) (head1 (Jvm.Cond.code (⟨"com/example/hedge/hedge/RewardStructure", "fits", "(II)Z"⟩ : MethodName) prog_30_method_6_code 3 (some .boolean) :: ws) ({ frames := 0, cells := 0, slots := 0, locals := 0 } : Room)) (fun a U => a = #[(.ref t0), (.int sq), (.int tq)] ∧ Z.Warmed39 U.vm ∧ U.heap = h0) (fun _ _ _ _ _ => True) (fun _ U o U' => ∃ v L, o = .returned v ∧ Q_fYa Z t0 sq tq s0 s1 nq ka mq kb h0 n0 v U'.heap L ∧ FrameEnd U o U' L ({ frames := 0, cells := 0, slots := 0, locals := 0 } : Room).cells ({ frames := 0, cells := 0, slots := 0, locals := 0 } : Room).slots) := by
  refine MetFree.of_bodySF (plainFor_of_name pn_com_example_hedge_hedge_RewardStructure) hisR ?_
  intro p e s m args below meth c s₁ Bd hml0 hP hK
  obtain ⟨rfl, hZ, hh⟩ := hP
  have hx := Bd.exec
  have hby := Bd.bytes
  have hml : c.maxLocals = 3 := hml0
  have hown : s.vm.findClass "com/example/hedge/hedge/RewardStructure" = some m.cls := findClass_of_methodNamed Bd.named
  have hnm := (name_of_methodNamed Bd.named Bd.method).1
  have X0 : Stand p l e ({ frames := 0, cells := 0, slots := 0, locals := 0 } : Room) s m #[(.ref t0), (.int sq), (.int tq)] below meth c s₁ [] 0 0 := Stand.of_body Bd
  have e0 : s₁.heap = h0 := by rw [← hh, Bd.state]; rfl
  have N0 := Fr.nil n0
  have pre0 : ∀ t, Steps p.tables e below (s₁.setTop (mkF m 0 #[.val (.ref t0), .val (.int sq), .val (.int tq)] [])) t → Steps p.tables e below (s₁.setTop (entryFrame m #[(.ref t0), (.int sq), (.int tq)] 3)) t := fun t k => castTop (ef_4_RII m t0 sq tq) k
  obtain ⟨T1, X1, e1, st1⟩ := getF X0 hx hZ hown (host := "") (Or.inl (hw _ (List.mem_of_getElem? (i := 24) rfl))) Via.refl e0 F_state_t0 (g := (mkF m 1 #[.val (.ref t0), .val (.int sq), .val (.int tq)] [(.ref t0)])) rfl rfl (hb hby d4_1)
  obtain ⟨cq2, Arq2, -, Sq2, Nq2, -, -⟩ := id V_s0
  obtain ⟨fs, hr, hrun, hended, hW, hsame⟩ := X1.leave (v := some (.int (0 : Int32))) (fun h => by rw [Bd.returns] at h; cases h)
  refine ⟨_, _, pre0 _ ?_, hrun, hended, _, _, rfl, ?_, ⟨_, rfl⟩, hW, hsame.mono (by decide) (by decide)⟩
  · show Steps p.tables e below (s₁.setTop (mkF m 0 #[.val (.ref t0), .val (.int sq), .val (.int tq)] [])) _
    refine XS.aloadN X0.here hx rfl (hb hby d4_0) rfl rfl ?_
    refine st1 _ ?_
    show Steps p.tables e below (T1.setTop (mkF m 4 #[.val (.ref t0), .val (.int sq), .val (.int tq)] [(.ref s0)])) _
    refine X1.arraylength hx (by rw [e1]; exact Arq2.1) (State.isArrayOf_alike hZ.alike Arq2.2.1) (g := (mkF m 4 #[.val (.ref t0), .val (.int sq), .val (.int tq)] [(.ref s0)])) rfl rfl (hb hby d4_4) _ ?_
    rw [len_of Sq2 Nq2]
    show Steps p.tables e below (T1.setTop (mkF m 5 #[.val (.ref t0), .val (.int sq), .val (.int tq)] [(.int nq)])) _
    refine XS.iloadN X1.here hx rfl (hb hby d4_5) rfl ?_
    refine XS.icmpYes X1.here hx rfl (pc0 := 6) (pc' := 29) rfl (hb hby d4_6) rfl (feq hc6).2 (by decide) (by decide) ?_
    show Steps p.tables e below (T1.setTop (mkF m 29 #[.val (.ref t0), .val (.int sq), .val (.int tq)] [])) _
    refine XS.iconst X1.here hx rfl (hb hby d4_29) ?_
    exact retN X1 hx (t := .boolean) Bd.returns (by simp) (hb hby d4_30) hr
  · show Q_fYa Z t0 sq tq s0 s1 nq ka mq kb h0 n0 _ T1.heap _
    rw [e1]
    exact ⟨rfl, N0, rfl⟩
theorem d4_16 : decode prog_30_method_6_code 16 = .ok (.aload_n 0, 1) := by decide +kernel
theorem d4_17 : decode prog_30_method_6_code 17 = .ok (.getfield 21, 3) := by decide +kernel
theorem d4_20 : decode prog_30_method_6_code 20 = .ok (.arraylength, 1) := by decide +kernel
theorem d4_21 : decode prog_30_method_6_code 21 = .ok (.iload_n 2, 1) := by decide +kernel
theorem d4_22 : decode prog_30_method_6_code 22 = .ok (.if_icmp .ne 7, 3) := by decide +kernel
def Q_fYb (Z : State) (t0 : Addr) (sq : Int32) (tq : Int32) (s0 : Addr) (s1 : Addr) (nq : Int32) (ka : ClassId) (mq : Int32) (kb : ClassId) (h0 : Heap) (n0 : Nat) (v : Option Value) (h : Heap) (L : List Loc) : Prop := v = some (.int (1 : Int32)) ∧ Fr n0 L ∧ h = h0
set_option maxRecDepth 65536 in
set_option maxHeartbeats 40000000 in
theorem fYb (l : Launch) (Z : State) (a0 : Array Value) (hw : ∀ d ∈ tables_1, d.before a0 Z = true) (ws : List Jvm.Cond) (t0 : Addr) (sq : Int32) (tq : Int32) (s0 : Addr) (s1 : Addr) (nq : Int32) (ka : ClassId) (mq : Int32) (kb : ClassId) (h0 : Heap) (n0 : Nat) (Z0 : n0 ≤ h0.size) (F_state_t0 : Fld Z h0 t0 "com/example/hedge/hedge/RewardStructure" "state" "[D" (.ref s0)) (F_transition_t0 : Fld Z h0 t0 "com/example/hedge/hedge/RewardStructure" "transition" "[D" (.ref s1)) (V_s0 : Arv Z h0 s0 ka .double nq [] (.double (0 : UInt64))) (V_s1 : Arv Z h0 s1 kb .double mq [] (.double (0 : UInt64))) (hc6 : nq = sq) (hc22 : mq = tq) :
    MetFree l (⟨"com/example/hedge/hedge/RewardStructure", "fits", "(II)Z"⟩ : MethodName) (head1 (Jvm.Cond.code (⟨"com/example/hedge/hedge/RewardStructure", "fits", "(II)Z"⟩ : MethodName) prog_30_method_6_code 3 (some .boolean) :: ws) ({ frames := 0, cells := 0, slots := 0, locals := 0 } : Room)) (fun a U => a = #[(.ref t0), (.int sq), (.int tq)] ∧ Z.Warmed39 U.vm ∧ U.heap = h0) (fun _ _ _ _ _ => True) (fun _ U o U' => ∃ v L, o = .returned v ∧ Q_fYb Z t0 sq tq s0 s1 nq ka mq kb h0 n0 v U'.heap L ∧ FrameEnd U o U' L ({ frames := 0, cells := 0, slots := 0, locals := 0 } : Room).cells ({ frames := 0, cells := 0, slots := 0, locals := 0 } : Room).slots) := by
  refine MetFree.of_bodySF (plainFor_of_name pn_com_example_hedge_hedge_RewardStructure) hisR ?_
  intro p e s m args below meth c s₁ Bd hml0 hP hK
  obtain ⟨rfl, hZ, hh⟩ := hP
  have hx := Bd.exec
  have hby := Bd.bytes
  have hml : c.maxLocals = 3 := hml0
  have hown : s.vm.findClass "com/example/hedge/hedge/RewardStructure" = some m.cls := findClass_of_methodNamed Bd.named
  have hnm := (name_of_methodNamed Bd.named Bd.method).1
  have X0 : Stand p l e ({ frames := 0, cells := 0, slots := 0, locals := 0 } : Room) s m #[(.ref t0), (.int sq), (.int tq)] below meth c s₁ [] 0 0 := Stand.of_body Bd
  have e0 : s₁.heap = h0 := by rw [← hh, Bd.state]; rfl
  have N0 := Fr.nil n0
  have pre0 : ∀ t, Steps p.tables e below (s₁.setTop (mkF m 0 #[.val (.ref t0), .val (.int sq), .val (.int tq)] [])) t → Steps p.tables e below (s₁.setTop (entryFrame m #[(.ref t0), (.int sq), (.int tq)] 3)) t := fun t k => castTop (ef_4_RII m t0 sq tq) k
  obtain ⟨T1, X1, e1, st1⟩ := getF X0 hx hZ hown (host := "") (Or.inl (hw _ (List.mem_of_getElem? (i := 24) rfl))) Via.refl e0 F_state_t0 (g := (mkF m 1 #[.val (.ref t0), .val (.int sq), .val (.int tq)] [(.ref t0)])) rfl rfl (hb hby d4_1)
  obtain ⟨cq2, Arq2, -, Sq2, Nq2, -, -⟩ := id V_s0
  obtain ⟨T3, X3, e3, st3⟩ := getF X1 hx hZ hown (host := "") (Or.inl (hw _ (List.mem_of_getElem? (i := 26) rfl))) Via.refl e1 F_transition_t0 (g := (mkF m 10 #[.val (.ref t0), .val (.int sq), .val (.int tq)] [(.ref t0)])) rfl rfl (hb hby d4_10)
  obtain ⟨T4, X4, e4, st4⟩ := getF X3 hx hZ hown (host := "") (Or.inl (hw _ (List.mem_of_getElem? (i := 26) rfl))) Via.refl e3 F_transition_t0 (g := (mkF m 17 #[.val (.ref t0), .val (.int sq), .val (.int tq)] [(.ref t0)])) rfl rfl (hb hby d4_17)
  obtain ⟨cq5, Arq5, -, Sq5, Nq5, -, -⟩ := id V_s1
  obtain ⟨fs, hr, hrun, hended, hW, hsame⟩ := X4.leave (v := some (.int (1 : Int32))) (fun h => by rw [Bd.returns] at h; cases h)
  refine ⟨_, _, pre0 _ ?_, hrun, hended, _, _, rfl, ?_, ⟨_, rfl⟩, hW, hsame.mono (by decide) (by decide)⟩
  · show Steps p.tables e below (s₁.setTop (mkF m 0 #[.val (.ref t0), .val (.int sq), .val (.int tq)] [])) _
    refine XS.aloadN X0.here hx rfl (hb hby d4_0) rfl rfl ?_
    refine st1 _ ?_
    show Steps p.tables e below (T1.setTop (mkF m 4 #[.val (.ref t0), .val (.int sq), .val (.int tq)] [(.ref s0)])) _
    refine X1.arraylength hx (by rw [e1]; exact Arq2.1) (State.isArrayOf_alike hZ.alike Arq2.2.1) (g := (mkF m 4 #[.val (.ref t0), .val (.int sq), .val (.int tq)] [(.ref s0)])) rfl rfl (hb hby d4_4) _ ?_
    rw [len_of Sq2 Nq2]
    show Steps p.tables e below (T1.setTop (mkF m 5 #[.val (.ref t0), .val (.int sq), .val (.int tq)] [(.int nq)])) _
    refine XS.iloadN X1.here hx rfl (hb hby d4_5) rfl ?_
    refine XS.icmpNo X1.here hx rfl (hb hby d4_6) rfl (teq hc6).2 ?_
    show Steps p.tables e below (T1.setTop (mkF m 9 #[.val (.ref t0), .val (.int sq), .val (.int tq)] [])) _
    refine XS.aloadN X1.here hx rfl (hb hby d4_9) rfl rfl ?_
    refine st3 _ ?_
    show Steps p.tables e below (T3.setTop (mkF m 13 #[.val (.ref t0), .val (.int sq), .val (.int tq)] [(.ref s1)])) _
    refine XS.ifnullNo X3.here hx rfl (hb hby d4_13) rfl ?_
    refine XS.aloadN X3.here hx rfl (hb hby d4_16) rfl rfl ?_
    refine st4 _ ?_
    show Steps p.tables e below (T4.setTop (mkF m 20 #[.val (.ref t0), .val (.int sq), .val (.int tq)] [(.ref s1)])) _
    refine X4.arraylength hx (by rw [e4]; exact Arq5.1) (State.isArrayOf_alike hZ.alike Arq5.2.1) (g := (mkF m 20 #[.val (.ref t0), .val (.int sq), .val (.int tq)] [(.ref s1)])) rfl rfl (hb hby d4_20) _ ?_
    rw [len_of Sq5 Nq5]
    show Steps p.tables e below (T4.setTop (mkF m 21 #[.val (.ref t0), .val (.int sq), .val (.int tq)] [(.int mq)])) _
    refine XS.iloadN X4.here hx rfl (hb hby d4_21) rfl ?_
    refine XS.icmpNo X4.here hx rfl (hb hby d4_22) rfl (teq hc22).2 ?_
    refine XS.iconst X4.here hx rfl (hb hby d4_25) ?_
    refine XS.goto X4.here hx rfl (pc0 := 26) (pc' := 30) rfl (hb hby d4_26) (by decide) (by decide) ?_
    exact retN X4 hx (t := .boolean) Bd.returns (by simp) (hb hby d4_30) hr
  · show Q_fYb Z t0 sq tq s0 s1 nq ka mq kb h0 n0 _ T4.heap _
    rw [e4]
    exact ⟨rfl, N0, rfl⟩
def Q_fYc (Z : State) (t0 : Addr) (sq : Int32) (tq : Int32) (s0 : Addr) (s1 : Addr) (nq : Int32) (ka : ClassId) (mq : Int32) (kb : ClassId) (h0 : Heap) (n0 : Nat) (v : Option Value) (h : Heap) (L : List Loc) : Prop := v = some (.int (0 : Int32)) ∧ Fr n0 L ∧ h = h0
set_option maxRecDepth 65536 in
set_option maxHeartbeats 40000000 in
theorem fYc (l : Launch) (Z : State) (a0 : Array Value) (hw : ∀ d ∈ tables_1, d.before a0 Z = true) (ws : List Jvm.Cond) (t0 : Addr) (sq : Int32) (tq : Int32) (s0 : Addr) (s1 : Addr) (nq : Int32) (ka : ClassId) (mq : Int32) (kb : ClassId) (h0 : Heap) (n0 : Nat) (Z0 : n0 ≤ h0.size) (F_state_t0 : Fld Z h0 t0 "com/example/hedge/hedge/RewardStructure" "state" "[D" (.ref s0)) (F_transition_t0 : Fld Z h0 t0 "com/example/hedge/hedge/RewardStructure" "transition" "[D" (.ref s1)) (V_s0 : Arv Z h0 s0 ka .double nq [] (.double (0 : UInt64))) (V_s1 : Arv Z h0 s1 kb .double mq [] (.double (0 : UInt64))) (hc6 : nq = sq) (hc22 : ¬ (mq = tq)) :
    MetFree l (⟨"com/example/hedge/hedge/RewardStructure", "fits", "(II)Z"⟩ : MethodName) (head1 (Jvm.Cond.code (⟨"com/example/hedge/hedge/RewardStructure", "fits", "(II)Z"⟩ : MethodName) prog_30_method_6_code 3 (some .boolean) :: ws) ({ frames := 0, cells := 0, slots := 0, locals := 0 } : Room)) (fun a U => a = #[(.ref t0), (.int sq), (.int tq)] ∧ Z.Warmed39 U.vm ∧ U.heap = h0) (fun _ _ _ _ _ => True) (fun _ U o U' => ∃ v L, o = .returned v ∧ Q_fYc Z t0 sq tq s0 s1 nq ka mq kb h0 n0 v U'.heap L ∧ FrameEnd U o U' L ({ frames := 0, cells := 0, slots := 0, locals := 0 } : Room).cells ({ frames := 0, cells := 0, slots := 0, locals := 0 } : Room).slots) := by
  refine MetFree.of_bodySF (plainFor_of_name pn_com_example_hedge_hedge_RewardStructure) hisR ?_
  intro p e s m args below meth c s₁ Bd hml0 hP hK
  obtain ⟨rfl, hZ, hh⟩ := hP
  have hx := Bd.exec
  have hby := Bd.bytes
  have hml : c.maxLocals = 3 := hml0
  have hown : s.vm.findClass "com/example/hedge/hedge/RewardStructure" = some m.cls := findClass_of_methodNamed Bd.named
  have hnm := (name_of_methodNamed Bd.named Bd.method).1
  have X0 : Stand p l e ({ frames := 0, cells := 0, slots := 0, locals := 0 } : Room) s m #[(.ref t0), (.int sq), (.int tq)] below meth c s₁ [] 0 0 := Stand.of_body Bd
  have e0 : s₁.heap = h0 := by rw [← hh, Bd.state]; rfl
  have N0 := Fr.nil n0
  have pre0 : ∀ t, Steps p.tables e below (s₁.setTop (mkF m 0 #[.val (.ref t0), .val (.int sq), .val (.int tq)] [])) t → Steps p.tables e below (s₁.setTop (entryFrame m #[(.ref t0), (.int sq), (.int tq)] 3)) t := fun t k => castTop (ef_4_RII m t0 sq tq) k
  obtain ⟨T1, X1, e1, st1⟩ := getF X0 hx hZ hown (host := "") (Or.inl (hw _ (List.mem_of_getElem? (i := 24) rfl))) Via.refl e0 F_state_t0 (g := (mkF m 1 #[.val (.ref t0), .val (.int sq), .val (.int tq)] [(.ref t0)])) rfl rfl (hb hby d4_1)
  obtain ⟨cq2, Arq2, -, Sq2, Nq2, -, -⟩ := id V_s0
  obtain ⟨T3, X3, e3, st3⟩ := getF X1 hx hZ hown (host := "") (Or.inl (hw _ (List.mem_of_getElem? (i := 26) rfl))) Via.refl e1 F_transition_t0 (g := (mkF m 10 #[.val (.ref t0), .val (.int sq), .val (.int tq)] [(.ref t0)])) rfl rfl (hb hby d4_10)
  obtain ⟨T4, X4, e4, st4⟩ := getF X3 hx hZ hown (host := "") (Or.inl (hw _ (List.mem_of_getElem? (i := 26) rfl))) Via.refl e3 F_transition_t0 (g := (mkF m 17 #[.val (.ref t0), .val (.int sq), .val (.int tq)] [(.ref t0)])) rfl rfl (hb hby d4_17)
  obtain ⟨cq5, Arq5, -, Sq5, Nq5, -, -⟩ := id V_s1
  obtain ⟨fs, hr, hrun, hended, hW, hsame⟩ := X4.leave (v := some (.int (0 : Int32))) (fun h => by rw [Bd.returns] at h; cases h)
  refine ⟨_, _, pre0 _ ?_, hrun, hended, _, _, rfl, ?_, ⟨_, rfl⟩, hW, hsame.mono (by decide) (by decide)⟩
  · show Steps p.tables e below (s₁.setTop (mkF m 0 #[.val (.ref t0), .val (.int sq), .val (.int tq)] [])) _
    refine XS.aloadN X0.here hx rfl (hb hby d4_0) rfl rfl ?_
    refine st1 _ ?_
    show Steps p.tables e below (T1.setTop (mkF m 4 #[.val (.ref t0), .val (.int sq), .val (.int tq)] [(.ref s0)])) _
    refine X1.arraylength hx (by rw [e1]; exact Arq2.1) (State.isArrayOf_alike hZ.alike Arq2.2.1) (g := (mkF m 4 #[.val (.ref t0), .val (.int sq), .val (.int tq)] [(.ref s0)])) rfl rfl (hb hby d4_4) _ ?_
    rw [len_of Sq2 Nq2]
    show Steps p.tables e below (T1.setTop (mkF m 5 #[.val (.ref t0), .val (.int sq), .val (.int tq)] [(.int nq)])) _
    refine XS.iloadN X1.here hx rfl (hb hby d4_5) rfl ?_
    refine XS.icmpNo X1.here hx rfl (hb hby d4_6) rfl (teq hc6).2 ?_
    show Steps p.tables e below (T1.setTop (mkF m 9 #[.val (.ref t0), .val (.int sq), .val (.int tq)] [])) _
    refine XS.aloadN X1.here hx rfl (hb hby d4_9) rfl rfl ?_
    refine st3 _ ?_
    show Steps p.tables e below (T3.setTop (mkF m 13 #[.val (.ref t0), .val (.int sq), .val (.int tq)] [(.ref s1)])) _
    refine XS.ifnullNo X3.here hx rfl (hb hby d4_13) rfl ?_
    refine XS.aloadN X3.here hx rfl (hb hby d4_16) rfl rfl ?_
    refine st4 _ ?_
    show Steps p.tables e below (T4.setTop (mkF m 20 #[.val (.ref t0), .val (.int sq), .val (.int tq)] [(.ref s1)])) _
    refine X4.arraylength hx (by rw [e4]; exact Arq5.1) (State.isArrayOf_alike hZ.alike Arq5.2.1) (g := (mkF m 20 #[.val (.ref t0), .val (.int sq), .val (.int tq)] [(.ref s1)])) rfl rfl (hb hby d4_20) _ ?_
    rw [len_of Sq5 Nq5]
    show Steps p.tables e below (T4.setTop (mkF m 21 #[.val (.ref t0), .val (.int sq), .val (.int tq)] [(.int mq)])) _
    refine XS.iloadN X4.here hx rfl (hb hby d4_21) rfl ?_
    refine XS.icmpYes X4.here hx rfl (pc0 := 22) (pc' := 29) rfl (hb hby d4_22) rfl (feq hc22).2 (by decide) (by decide) ?_
    refine XS.iconst X4.here hx rfl (hb hby d4_29) ?_
    exact retN X4 hx (t := .boolean) Bd.returns (by simp) (hb hby d4_30) hr
  · show Q_fYc Z t0 sq tq s0 s1 nq ka mq kb h0 n0 _ T4.heap _
    rw [e4]
    exact ⟨rfl, N0, rfl⟩
theorem pd_2 : parseMethodDescriptor "([D[D)V" = some ⟨[(.array .double), (.array .double)], none⟩ := by decide +kernel
theorem pd_3 : parseMethodDescriptor "(II)Z" = some ⟨[.int, .int], some .boolean⟩ := by decide +kernel
theorem pn_com_example_hedge_hedge_RewardStructureFitsPinLaw : plainName "com/example/hedge/hedge/RewardStructureFitsPinLaw" = true := by first | (simp [plainName, overriddenIn]; done) | decide +kernel
theorem ef_0_IIIII (m : MethodId) (x0 : Int32) (x1 : Int32) (x2 : Int32) (x3 : Int32) (x4 : Int32) : entryFrame m #[(.int x0), (.int x1), (.int x2), (.int x3), (.int x4)] maxLocals = mkF m 0 #[.val (.int x0), .val (.int x1), .val (.int x2), .val (.int x3), .val (.int x4), .unset, .unset, .unset, .unset, .unset, .unset, .unset, .unset, .unset, .unset] [] := by first | (simp [entryFrame, mkF, argsToLocals, Value.category, maxLocals]; done) | rfl
def Q0 (n0 : Nat) (v : Option Value) (h : Heap) (L : List Loc) : Prop := v = some (.int (1 : Int32)) ∧ Fr n0 L
set_option maxRecDepth 65536 in
set_option maxHeartbeats 40000000 in
theorem rm0Na (l : Launch) (Z : State) (a0 : Array Value) (hw : ∀ d ∈ tables_1, d.before a0 Z = true) (ws : List Jvm.Cond) (p0 : Int32) (p1 : Int32) (p2 : Int32) (p3 : Int32) (p4 : Int32) (nv : Int32) (mv : Int32) (sv : Int32) (tv : Int32) (h0 : Heap) (n0 : Nat) (Z0 : n0 ≤ h0.size) (hn1 : ¬ nv < 0) (hn2 : nv.toNatClampNeg ≤ 3) (hv2 : (p0 &&& (3 : Int32)) = nv) (hv7 : (p1 &&& (3 : Int32)) = mv) (hc13 : (p2 &&& (1 : Int32)) = (0 : Int32)) (hj_sv : (if (p2 &&& (2 : Int32)) = (0 : Int32) then p3 else nv) = sv) (hj_tv : (if (p2 &&& (4 : Int32)) = (0 : Int32) then p4 else mv) = tv) (hcase_81 : ((¬ ((0 : Int32) < nv))) ∨ (((0 : Int32) < nv) ∧ (¬ (0 : Int32) < 0 ∧ (0 : Int32) < nv) ∧ (¬ ((1 : Int32) < nv))) ∨ (((0 : Int32) < nv) ∧ (¬ (0 : Int32) < 0 ∧ (0 : Int32) < nv) ∧ ((1 : Int32) < nv) ∧ (¬ (1 : Int32) < 0 ∧ (1 : Int32) < nv) ∧ (¬ ((2 : Int32) < nv))) ∨ (((0 : Int32) < nv) ∧ (¬ (0 : Int32) < 0 ∧ (0 : Int32) < nv) ∧ ((1 : Int32) < nv) ∧ (¬ (1 : Int32) < 0 ∧ (1 : Int32) < nv) ∧ ((2 : Int32) < nv) ∧ (¬ (2 : Int32) < 0 ∧ (2 : Int32) < nv) ∧ (¬ ((3 : Int32) < nv)))) (hc6_92 : nv = sv) (hc101 : sv = nv) :
    MetFree l x (head1 (Jvm.Cond.code x code maxLocals ret :: ws) room_1) (fun a U => a = #[(.int p0), (.int p1), (.int p2), (.int p3), (.int p4)] ∧ Z.Warmed39 U.vm ∧ U.heap = h0) (fun _ _ _ _ _ => True) (fun _ U o U' => ∃ v L, o = .returned v ∧ Q0 n0 v U'.heap L ∧ ReturnedEndW U o U' L room_1.cells room_1.slots) := by
  refine MetFree.of_bodySF (plainFor_of_name pn_com_example_hedge_hedge_RewardStructureFitsPinLaw) hisR ?_
  intro p e s m args below meth c s₁ Bd hml0 hP hK
  obtain ⟨rfl, hZ, hh⟩ := hP
  have hx := Bd.exec
  have hby := Bd.bytes
  have hml : c.maxLocals = 15 := hml0
  have hown : s.vm.findClass "com/example/hedge/hedge/RewardStructureFitsPinLaw" = some m.cls := findClass_of_methodNamed Bd.named
  have hnm := (name_of_methodNamed Bd.named Bd.method).1
  have X0 : Stand p l e room_1 s m #[(.int p0), (.int p1), (.int p2), (.int p3), (.int p4)] below meth c s₁ [] 0 0 := Stand.of_body Bd
  have e0 : s₁.heap = h0 := by rw [← hh, Bd.state]; rfl
  have N0 := Fr.nil n0
  have pre0 : ∀ t, Steps p.tables e below (s₁.setTop (mkF m 0 #[.val (.int p0), .val (.int p1), .val (.int p2), .val (.int p3), .val (.int p4), .unset, .unset, .unset, .unset, .unset, .unset, .unset, .unset, .unset, .unset] [])) t → Steps p.tables e below (s₁.setTop (entryFrame m #[(.int p0), (.int p1), (.int p2), (.int p3), (.int p4)] maxLocals)) t := fun t k => castTop (ef_0_IIIII m p0 p1 p2 p3 p4) k
  obtain ⟨vm0, k00, X0, hS0, hk0, hZ0, hown0⟩ := own_W0 X0 e0 hZ hown
  have jn1 : ∀ target, Steps p.tables e below (s₁.setTop (mkF m 35 #[.val (.int p0), .val (.int p1), .val (.int p2), .val (.int p3), .val (.int p4), .val (.int nv), .val (.int mv), .val (.int (0 : Int32)), .unset, .unset, .unset, .unset, .unset, .unset, .unset] [(.int sv)])) target → Steps p.tables e below (s₁.setTop (mkF m 26 #[.val (.int p0), .val (.int p1), .val (.int p2), .val (.int p3), .val (.int p4), .val (.int nv), .val (.int mv), .val (.int (0 : Int32)), .unset, .unset, .unset, .unset, .unset, .unset, .unset] [(.int (p2 &&& (2 : Int32)))])) target := by
    intro target kt
    by_cases hq : (p2 &&& (2 : Int32)) = (0 : Int32)
    · rw [if_pos hq] at hj_sv; subst hj_sv
      show Steps p.tables e below (s₁.setTop (mkF m 26 #[.val (.int p0), .val (.int p1), .val (.int p2), .val (.int p3), .val (.int p4), .val (.int nv), .val (.int mv), .val (.int (0 : Int32)), .unset, .unset, .unset, .unset, .unset, .unset, .unset] [(.int (p2 &&& (2 : Int32)))])) _
      refine XS.ifYes X0.here hx rfl (pc0 := 26) (pc' := 34) rfl (hb hby at_26) rfl ((if0 _ _).trans (teq hq).1) (by decide) (by decide) ?_
      refine XS.iloadN X0.here hx rfl (hb hby at_34) rfl ?_
      show Steps p.tables e below (s₁.setTop (mkF m 35 #[.val (.int p0), .val (.int p1), .val (.int p2), .val (.int p3), .val (.int p4), .val (.int nv), .val (.int mv), .val (.int (0 : Int32)), .unset, .unset, .unset, .unset, .unset, .unset, .unset] [(.int p3)])) _
      exact kt
    · rw [if_neg hq] at hj_sv; subst hj_sv
      show Steps p.tables e below (s₁.setTop (mkF m 26 #[.val (.int p0), .val (.int p1), .val (.int p2), .val (.int p3), .val (.int p4), .val (.int nv), .val (.int mv), .val (.int (0 : Int32)), .unset, .unset, .unset, .unset, .unset, .unset, .unset] [(.int (p2 &&& (2 : Int32)))])) _
      refine XS.ifNo X0.here hx rfl (hb hby at_26) rfl ((if0 _ _).trans (feq hq).1) ?_
      refine XS.iload X0.here hx rfl (hb hby at_29) rfl ?_
      show Steps p.tables e below (s₁.setTop (mkF m 31 #[.val (.int p0), .val (.int p1), .val (.int p2), .val (.int p3), .val (.int p4), .val (.int nv), .val (.int mv), .val (.int (0 : Int32)), .unset, .unset, .unset, .unset, .unset, .unset, .unset] [(.int nv)])) _
      refine XS.goto X0.here hx rfl (pc0 := 31) (pc' := 35) rfl (hb hby at_31) (by decide) (by decide) ?_
      show Steps p.tables e below (s₁.setTop (mkF m 35 #[.val (.int p0), .val (.int p1), .val (.int p2), .val (.int p3), .val (.int p4), .val (.int nv), .val (.int mv), .val (.int (0 : Int32)), .unset, .unset, .unset, .unset, .unset, .unset, .unset] [(.int nv)])) _
      exact kt
  have jn2 : ∀ target, Steps p.tables e below (s₁.setTop (mkF m 50 #[.val (.int p0), .val (.int p1), .val (.int p2), .val (.int p3), .val (.int p4), .val (.int nv), .val (.int mv), .val (.int (0 : Int32)), .val (.int sv), .unset, .unset, .unset, .unset, .unset, .unset] [(.int tv)])) target → Steps p.tables e below (s₁.setTop (mkF m 40 #[.val (.int p0), .val (.int p1), .val (.int p2), .val (.int p3), .val (.int p4), .val (.int nv), .val (.int mv), .val (.int (0 : Int32)), .val (.int sv), .unset, .unset, .unset, .unset, .unset, .unset] [(.int (p2 &&& (4 : Int32)))])) target := by
    intro target kt
    by_cases hq : (p2 &&& (4 : Int32)) = (0 : Int32)
    · rw [if_pos hq] at hj_tv; subst hj_tv
      show Steps p.tables e below (s₁.setTop (mkF m 40 #[.val (.int p0), .val (.int p1), .val (.int p2), .val (.int p3), .val (.int p4), .val (.int nv), .val (.int mv), .val (.int (0 : Int32)), .val (.int sv), .unset, .unset, .unset, .unset, .unset, .unset] [(.int (p2 &&& (4 : Int32)))])) _
      refine XS.ifYes X0.here hx rfl (pc0 := 40) (pc' := 48) rfl (hb hby at_40) rfl ((if0 _ _).trans (teq hq).1) (by decide) (by decide) ?_
      refine XS.iload X0.here hx rfl (hb hby at_48) rfl ?_
      show Steps p.tables e below (s₁.setTop (mkF m 50 #[.val (.int p0), .val (.int p1), .val (.int p2), .val (.int p3), .val (.int p4), .val (.int nv), .val (.int mv), .val (.int (0 : Int32)), .val (.int sv), .unset, .unset, .unset, .unset, .unset, .unset] [(.int p4)])) _
      exact kt
    · rw [if_neg hq] at hj_tv; subst hj_tv
      show Steps p.tables e below (s₁.setTop (mkF m 40 #[.val (.int p0), .val (.int p1), .val (.int p2), .val (.int p3), .val (.int p4), .val (.int nv), .val (.int mv), .val (.int (0 : Int32)), .val (.int sv), .unset, .unset, .unset, .unset, .unset, .unset] [(.int (p2 &&& (4 : Int32)))])) _
      refine XS.ifNo X0.here hx rfl (hb hby at_40) rfl ((if0 _ _).trans (feq hq).1) ?_
      refine XS.iload X0.here hx rfl (hb hby at_43) rfl ?_
      refine XS.goto X0.here hx rfl (pc0 := 45) (pc' := 50) rfl (hb hby at_45) (by decide) (by decide) ?_
      show Steps p.tables e below (s₁.setTop (mkF m 50 #[.val (.int p0), .val (.int p1), .val (.int p2), .val (.int p3), .val (.int p4), .val (.int nv), .val (.int mv), .val (.int (0 : Int32)), .val (.int sv), .unset, .unset, .unset, .unset, .unset, .unset] [(.int mv)])) _
      exact kt
  obtain ⟨T3, h3, k3, X3, e3, E3, A3, B3, st3⟩ := newPE X0 hx hZ0 (hw _ (List.mem_of_getElem? (i := 0) rfl)) e0 (g := (mkF m 54 #[.val (.int p0), .val (.int p1), .val (.int p2), .val (.int p3), .val (.int p4), .val (.int nv), .val (.int mv), .val (.int (0 : Int32)), .val (.int sv), .val (.int tv), .unset, .unset, .unset, .unset, .unset] [(.int nv)])) rfl (hb hby at_54) rfl hn1 (cap := 3) hn2 (by decide) (by decide) (by decide) (ad := "[D") rfl
  obtain ⟨b3, g3⟩ : ∃ z, z = h0.size := ⟨_, rfl⟩
  rw [← g3] at A3 st3 B3
  have g_b3 : n0 ≤ b3 := Nat.le_trans Z0 (Nat.le_of_eq g3.symm)
  have sz_b3 : h0.size ≤ b3 := Nat.le_trans (Keep.refl h0 []).1 (Nat.le_of_eq g3.symm)
  have K3 : Keep h0 h3 [] := (Keep.refl h0 []).ext E3
  have Zs3 := Nat.le_trans Z0 E3.1
  have hk3 := Nat.le_trans hk0 E3.1
  have V3 : Arv Z h3 b3 k3 .double nv [] (.double (0 : UInt64)) := Arv.new A3 hn1
  obtain ⟨T4, h4, X4, e4, E4, A4, D4, -, st4⟩ := newO X3 hx hZ0 hown0 (hw _ (List.mem_of_getElem? (i := 1) rfl)) (hw _ (List.mem_of_getElem? (i := 2) rfl)) (hw _ (List.mem_of_getElem? (i := 3) rfl)) e3 (g := (mkF m 73 #[.val (.int p0), .val (.int p1), .val (.int p2), .val (.int p3), .val (.int p4), .val (.int nv), .val (.int mv), .val (.int (0 : Int32)), .val (.int sv), .val (.int tv), .val (.ref b3), .val .null, .unset, .unset, .unset] [])) rfl (hb hby at_73) (by decide) (by decide)
  obtain ⟨b4, g4⟩ : ∃ z, z = h3.size := ⟨_, rfl⟩
  rw [← g4] at A4 D4 st4
  have ne_b3_b4 : b3 ≠ b4 := Nat.ne_of_lt (Nat.lt_of_lt_of_le V3.lt (Nat.le_of_eq g4.symm))
  have g_b4 : n0 ≤ b4 := Nat.le_trans Zs3 (Nat.le_of_eq g4.symm)
  have sz_b4 : h0.size ≤ b4 := Nat.le_trans K3.1 (Nat.le_of_eq g4.symm)
  have f5 := V3.ext E4
  have f6 := B3.ext E4
  have K4 : Keep h0 h4 [] := K3.ext E4
  have Zs4 := Nat.le_trans Zs3 E4.1
  have hk4 := Nat.le_trans hk3 E4.1
  have F4_state : Fld Z h4 b4 "com/example/hedge/hedge/RewardStructure" "state" "[D" .null := D4 (Or.inr (hw _ (List.mem_of_getElem? (i := 25) rfl))) (ty := (.array .double)) (by decide)
  have F4_transition : Fld Z h4 b4 "com/example/hedge/hedge/RewardStructure" "transition" "[D" .null := D4 (Or.inr (hw _ (List.mem_of_getElem? (i := 27) rfl))) (ty := (.array .double)) (by decide)
  obtain ⟨_, _, ⟨T7, L7, k7, n7⟩, -, X7, hs7, gr7, ⟨Lc7, hQ7, lq7, yq7, zq7⟩, st7⟩ := X4.specialBackS hx (y := (⟨"com/example/hedge/hedge/RewardStructure", "<init>", "([D[D)V"⟩ : MethodName)) rfl hown0 (mvT hZ0 (hw _ (List.mem_of_getElem? (i := 4) rfl))) (mvT hZ0 (hw _ (List.mem_of_getElem? (i := 5) rfl))) (mvT hZ0 (hw _ (List.mem_of_getElem? (i := 6) rfl))) (by decide) (backOfS (W := 1) (iniN l Z a0 hw [] b4 b3 nv k3 h4 n0 Zs4 A4 g_b4 F4_state F4_transition f6 f5 (Ne.symm ne_b3_b4) hcase_81) hZ0 (hw _ (List.mem_of_getElem? (i := 6) rfl)) (hw _ (List.mem_of_getElem? (i := 3) rfl)) (by decide) (by decide)) (g := (mkF m 81 #[.val (.int p0), .val (.int p1), .val (.int p2), .val (.int p3), .val (.int p4), .val (.int nv), .val (.int mv), .val (.int (0 : Int32)), .val (.int sv), .val (.int tv), .val (.ref b3), .val .null, .unset, .unset, .unset] [.null, (.ref b3), (.ref b4), (.ref b4)])) rfl (by rw [hml]; rfl) (Steps.refl _) (a := b4) (argsL := [(.ref b3), .null]) (rest := [(.ref b4)]) (lenOf pd_2 rfl) rfl (by show 2 * 0 + _ ≤ _; exact Nat.le_of_eq rfl) (hb hby at_81) (fun _ _ => ⟨rfl, e4, (by decide : 2 + 2 ≤ _), (by decide : 5 + 24 ≤ _)⟩)
  dsimp only [Pt.U, Pt.locs, Pt.cells, Pt.slots] at X7 lq7 yq7 zq7 st7 hQ7 hs7 gr7
  rw [lq7, yq7, zq7] at X7
  obtain ⟨X7, hS7, hZ7, hown7⟩ := own_fold X7 hS0 hs7 (Nat.le_trans (by rw [e4]; exact hk4) gr7) hZ0 hown0
  obtain ⟨rfl, N7q, K7q, f8, f9, f10⟩ := hQ7
  have N7 := Fr.app N0 N7q
  have f11 := f5.keep K7q (own_niS ne_b3_b4 own_ni0)
  have f12 := f6.keep K7q
  have f13 := A4.keep K7q
  have K7 : Keep h0 T7.heap [] := K4.trans K7q (own_allS (Or.inr sz_b4) own_all0)
  have Zs7 := Nat.le_trans Zs4 K7q.1
  have hk7 := Nat.le_trans hk4 K7q.1
  have hkq7 : T7.heap.size ≤ T7.heap.size := Nat.le_refl _
  obtain ⟨cq14, kq14, q14a, q14b, q14c⟩ := isOf hZ7 rfl f8
  obtain ⟨_, _, ⟨T14, L14, k14, n14⟩, -, X14, ⟨Lc14, hQ14, lq14, yq14, zq14⟩, st14⟩ := X7.virtualBack hx (y := (⟨"com/example/hedge/hedge/RewardStructure", "fits", "(II)Z"⟩ : MethodName)) (z := (⟨"com/example/hedge/hedge/RewardStructure", "fits", "(II)Z"⟩ : MethodName)) hown7 (mvT hZ7 (hw _ (List.mem_of_getElem? (i := 28) rfl))) (mvT hZ7 (hw _ (List.mem_of_getElem? (i := 29) rfl))) (notFace_of_selects (args := #[]) (mvT hZ7 (hw _ (List.mem_of_getElem? (i := 31) rfl)))) (mvT hZ7 (hw _ (List.mem_of_getElem? (i := 31) rfl))) (mvT hZ7 (hw _ (List.mem_of_getElem? (i := 30) rfl))) (by decide) (backOf (W := 0) (fNa l Z a0 hw [] b4 sv tv b3 nv k3 T7.heap n0 Zs7 f9 f10 f11 hc6_92) hZ7 (hw _ (List.mem_of_getElem? (i := 32) rfl)) (hw _ (List.mem_of_getElem? (i := 3) rfl)) (by decide) (by decide)) q14a q14c (g := (mkF m 92 #[.val (.int p0), .val (.int p1), .val (.int p2), .val (.int p3), .val (.int p4), .val (.int nv), .val (.int mv), .val (.int (0 : Int32)), .val (.int sv), .val (.int tv), .val (.ref b3), .val .null, .val (.ref b4), .unset, .unset] [(.int tv), (.int sv), (.ref b4)])) rfl (by rw [hml]; rfl) (Steps.refl _) (argsL := [(.int sv), (.int tv)]) (rest := []) (lenOf pd_3 rfl) rfl (by show 2 * 0 + _ ≤ _; exact Nat.le_of_eq rfl) (hb hby at_92) (fun _ _ => ⟨rfl, rfl, (by decide : 4 + 0 ≤ _), (by decide : 29 + 0 ≤ _)⟩)
  dsimp only [Pt.U, Pt.locs, Pt.cells, Pt.slots] at X14 lq14 yq14 zq14 st14 hQ14
  rw [lq14, yq14, zq14] at X14
  obtain ⟨rfl, N14q, eh14⟩ := hQ14
  have N14 := Fr.app N7 N14q
  have e14 : T14.heap = T7.heap := eh14
  obtain ⟨fs, hr, hrun, hended, hRW⟩ := X14.leaveW hS7 (by rw [e14]; exact hkq7) (v := some (.int (1 : Int32))) (fun h => by rw [Bd.returns] at h; cases h)
  refine ⟨_, _, pre0 _ ?_, hrun, hended, _, _, rfl, ?_, ⟨_, rfl⟩, hRW.2.1, hRW.2.2.1, hRW.2.2.2.mono (by decide) (by decide)⟩
  · show Steps p.tables e below (s₁.setTop (mkF m 0 #[.val (.int p0), .val (.int p1), .val (.int p2), .val (.int p3), .val (.int p4), .unset, .unset, .unset, .unset, .unset, .unset, .unset, .unset, .unset, .unset] [])) _
    refine XS.iloadN X0.here hx rfl (hb hby at_0) rfl ?_
    refine XS.iconst X0.here hx rfl (hb hby at_1) ?_
    refine XS.iand X0.here hx rfl (hb hby at_2) rfl ?_
    show Steps p.tables e below (s₁.setTop (mkF m 3 #[.val (.int p0), .val (.int p1), .val (.int p2), .val (.int p3), .val (.int p4), .unset, .unset, .unset, .unset, .unset, .unset, .unset, .unset, .unset, .unset] [(.int (p0 &&& (3 : Int32)))])) _
    rw [hv2]
    show Steps p.tables e below (s₁.setTop (mkF m 3 #[.val (.int p0), .val (.int p1), .val (.int p2), .val (.int p3), .val (.int p4), .unset, .unset, .unset, .unset, .unset, .unset, .unset, .unset, .unset, .unset] [(.int nv)])) _
    refine XS.istore X0.here hx rfl (hb hby at_3) rfl (l' := #[.val (.int p0), .val (.int p1), .val (.int p2), .val (.int p3), .val (.int p4), .val (.int nv), .unset, .unset, .unset, .unset, .unset, .unset, .unset, .unset, .unset]) rfl ?_
    show Steps p.tables e below (s₁.setTop (mkF m 5 #[.val (.int p0), .val (.int p1), .val (.int p2), .val (.int p3), .val (.int p4), .val (.int nv), .unset, .unset, .unset, .unset, .unset, .unset, .unset, .unset, .unset] [])) _
    refine XS.iloadN X0.here hx rfl (hb hby at_5) rfl ?_
    refine XS.iconst X0.here hx rfl (hb hby at_6) ?_
    refine XS.iand X0.here hx rfl (hb hby at_7) rfl ?_
    show Steps p.tables e below (s₁.setTop (mkF m 8 #[.val (.int p0), .val (.int p1), .val (.int p2), .val (.int p3), .val (.int p4), .val (.int nv), .unset, .unset, .unset, .unset, .unset, .unset, .unset, .unset, .unset] [(.int (p1 &&& (3 : Int32)))])) _
    rw [hv7]
    show Steps p.tables e below (s₁.setTop (mkF m 8 #[.val (.int p0), .val (.int p1), .val (.int p2), .val (.int p3), .val (.int p4), .val (.int nv), .unset, .unset, .unset, .unset, .unset, .unset, .unset, .unset, .unset] [(.int mv)])) _
    refine XS.istore X0.here hx rfl (hb hby at_8) rfl (l' := #[.val (.int p0), .val (.int p1), .val (.int p2), .val (.int p3), .val (.int p4), .val (.int nv), .val (.int mv), .unset, .unset, .unset, .unset, .unset, .unset, .unset, .unset]) rfl ?_
    refine XS.iloadN X0.here hx rfl (hb hby at_10) rfl ?_
    show Steps p.tables e below (s₁.setTop (mkF m 11 #[.val (.int p0), .val (.int p1), .val (.int p2), .val (.int p3), .val (.int p4), .val (.int nv), .val (.int mv), .unset, .unset, .unset, .unset, .unset, .unset, .unset, .unset] [(.int p2)])) _
    refine XS.iconst X0.here hx rfl (hb hby at_11) ?_
    refine XS.iand X0.here hx rfl (hb hby at_12) rfl ?_
    refine XS.ifYes X0.here hx rfl (pc0 := 13) (pc' := 20) rfl (hb hby at_13) rfl ((if0 _ _).trans (teq hc13).1) (by decide) (by decide) ?_
    refine XS.iconst X0.here hx rfl (hb hby at_20) ?_
    refine XS.istore X0.here hx rfl (hb hby at_21) rfl (l' := #[.val (.int p0), .val (.int p1), .val (.int p2), .val (.int p3), .val (.int p4), .val (.int nv), .val (.int mv), .val (.int (0 : Int32)), .unset, .unset, .unset, .unset, .unset, .unset, .unset]) rfl ?_
    refine XS.iloadN X0.here hx rfl (hb hby at_23) rfl ?_
    show Steps p.tables e below (s₁.setTop (mkF m 24 #[.val (.int p0), .val (.int p1), .val (.int p2), .val (.int p3), .val (.int p4), .val (.int nv), .val (.int mv), .val (.int (0 : Int32)), .unset, .unset, .unset, .unset, .unset, .unset, .unset] [(.int p2)])) _
    refine XS.iconst X0.here hx rfl (hb hby at_24) ?_
    refine XS.iand X0.here hx rfl (hb hby at_25) rfl ?_
    show Steps p.tables e below (s₁.setTop (mkF m 26 #[.val (.int p0), .val (.int p1), .val (.int p2), .val (.int p3), .val (.int p4), .val (.int nv), .val (.int mv), .val (.int (0 : Int32)), .unset, .unset, .unset, .unset, .unset, .unset, .unset] [(.int (p2 &&& (2 : Int32)))])) _
    refine jn1 _ ?_
    show Steps p.tables e below (s₁.setTop (mkF m 35 #[.val (.int p0), .val (.int p1), .val (.int p2), .val (.int p3), .val (.int p4), .val (.int nv), .val (.int mv), .val (.int (0 : Int32)), .unset, .unset, .unset, .unset, .unset, .unset, .unset] [(.int sv)])) _
    refine XS.istore X0.here hx rfl (hb hby at_35) rfl (l' := #[.val (.int p0), .val (.int p1), .val (.int p2), .val (.int p3), .val (.int p4), .val (.int nv), .val (.int mv), .val (.int (0 : Int32)), .val (.int sv), .unset, .unset, .unset, .unset, .unset, .unset]) rfl ?_
    refine XS.iloadN X0.here hx rfl (hb hby at_37) rfl ?_
    refine XS.iconst X0.here hx rfl (hb hby at_38) ?_
    refine XS.iand X0.here hx rfl (hb hby at_39) rfl ?_
    show Steps p.tables e below (s₁.setTop (mkF m 40 #[.val (.int p0), .val (.int p1), .val (.int p2), .val (.int p3), .val (.int p4), .val (.int nv), .val (.int mv), .val (.int (0 : Int32)), .val (.int sv), .unset, .unset, .unset, .unset, .unset, .unset] [(.int (p2 &&& (4 : Int32)))])) _
    refine jn2 _ ?_
    show Steps p.tables e below (s₁.setTop (mkF m 50 #[.val (.int p0), .val (.int p1), .val (.int p2), .val (.int p3), .val (.int p4), .val (.int nv), .val (.int mv), .val (.int (0 : Int32)), .val (.int sv), .unset, .unset, .unset, .unset, .unset, .unset] [(.int tv)])) _
    refine XS.istore X0.here hx rfl (hb hby at_50) rfl (l' := #[.val (.int p0), .val (.int p1), .val (.int p2), .val (.int p3), .val (.int p4), .val (.int nv), .val (.int mv), .val (.int (0 : Int32)), .val (.int sv), .val (.int tv), .unset, .unset, .unset, .unset, .unset]) rfl ?_
    refine XS.iload X0.here hx rfl (hb hby at_52) rfl ?_
    refine st3 _ ?_
    show Steps p.tables e below (T3.setTop (mkF m 56 #[.val (.int p0), .val (.int p1), .val (.int p2), .val (.int p3), .val (.int p4), .val (.int nv), .val (.int mv), .val (.int (0 : Int32)), .val (.int sv), .val (.int tv), .unset, .unset, .unset, .unset, .unset] [(.ref b3)])) _
    refine XS.astore X3.here hx rfl (hb hby at_56) rfl rfl (l' := #[.val (.int p0), .val (.int p1), .val (.int p2), .val (.int p3), .val (.int p4), .val (.int nv), .val (.int mv), .val (.int (0 : Int32)), .val (.int sv), .val (.int tv), .val (.ref b3), .unset, .unset, .unset, .unset]) rfl ?_
    refine XS.iload X3.here hx rfl (hb hby at_58) rfl ?_
    refine XS.ifYes X3.here hx rfl (pc0 := 60) (pc' := 70) rfl (hb hby at_60) rfl ((if0 _ _).trans (teq (by decide : (0 : Int32) = (0 : Int32))).1) (by decide) (by decide) ?_
    show Steps p.tables e below (T3.setTop (mkF m 70 #[.val (.int p0), .val (.int p1), .val (.int p2), .val (.int p3), .val (.int p4), .val (.int nv), .val (.int mv), .val (.int (0 : Int32)), .val (.int sv), .val (.int tv), .val (.ref b3), .unset, .unset, .unset, .unset] [])) _
    refine XS.aconstNull X3.here hx rfl (hb hby at_70) ?_
    refine XS.astore X3.here hx rfl (hb hby at_71) rfl rfl (l' := #[.val (.int p0), .val (.int p1), .val (.int p2), .val (.int p3), .val (.int p4), .val (.int nv), .val (.int mv), .val (.int (0 : Int32)), .val (.int sv), .val (.int tv), .val (.ref b3), .val .null, .unset, .unset, .unset]) rfl ?_
    refine st4 _ ?_
    show Steps p.tables e below (T4.setTop (mkF m 76 #[.val (.int p0), .val (.int p1), .val (.int p2), .val (.int p3), .val (.int p4), .val (.int nv), .val (.int mv), .val (.int (0 : Int32)), .val (.int sv), .val (.int tv), .val (.ref b3), .val .null, .unset, .unset, .unset] [(.ref b4)])) _
    refine XS.dup X4.here hx rfl (hb hby at_76) rfl rfl ?_
    refine XS.aload X4.here hx rfl (hb hby at_77) rfl rfl ?_
    refine XS.aload X4.here hx rfl (hb hby at_79) rfl rfl ?_
    show Steps p.tables e below (T4.setTop (mkF m 81 #[.val (.int p0), .val (.int p1), .val (.int p2), .val (.int p3), .val (.int p4), .val (.int nv), .val (.int mv), .val (.int (0 : Int32)), .val (.int sv), .val (.int tv), .val (.ref b3), .val .null, .unset, .unset, .unset] [.null, (.ref b3), (.ref b4), (.ref b4)])) _
    refine st7.trans ?_
    show Steps p.tables e below (T7.setTop (mkF m 84 #[.val (.int p0), .val (.int p1), .val (.int p2), .val (.int p3), .val (.int p4), .val (.int nv), .val (.int mv), .val (.int (0 : Int32)), .val (.int sv), .val (.int tv), .val (.ref b3), .val .null, .unset, .unset, .unset] [(.ref b4)])) _
    refine XS.astore X7.here hx rfl (hb hby at_84) rfl rfl (l' := #[.val (.int p0), .val (.int p1), .val (.int p2), .val (.int p3), .val (.int p4), .val (.int nv), .val (.int mv), .val (.int (0 : Int32)), .val (.int sv), .val (.int tv), .val (.ref b3), .val .null, .val (.ref b4), .unset, .unset]) rfl ?_
    refine XS.aload X7.here hx rfl (hb hby at_86) rfl rfl ?_
    refine XS.iload X7.here hx rfl (hb hby at_88) rfl ?_
    refine XS.iload X7.here hx rfl (hb hby at_90) rfl ?_
    refine st14.trans ?_
    show Steps p.tables e below (T14.setTop (mkF m 95 #[.val (.int p0), .val (.int p1), .val (.int p2), .val (.int p3), .val (.int p4), .val (.int nv), .val (.int mv), .val (.int (0 : Int32)), .val (.int sv), .val (.int tv), .val (.ref b3), .val .null, .val (.ref b4), .unset, .unset] [(.int (1 : Int32))])) _
    refine XS.istore X14.here hx rfl (hb hby at_95) rfl (l' := #[.val (.int p0), .val (.int p1), .val (.int p2), .val (.int p3), .val (.int p4), .val (.int nv), .val (.int mv), .val (.int (0 : Int32)), .val (.int sv), .val (.int tv), .val (.ref b3), .val .null, .val (.ref b4), .val (.int (1 : Int32)), .unset]) rfl ?_
    refine XS.iload X14.here hx rfl (hb hby at_97) rfl ?_
    refine XS.iload X14.here hx rfl (hb hby at_99) rfl ?_
    refine XS.icmpYes X14.here hx rfl (pc0 := 101) (pc' := 110) rfl (hb hby at_101) rfl (teq hc101).1 (by decide) (by decide) ?_
    refine XS.iload X14.here hx rfl (hb hby at_110) rfl ?_
    refine XS.ifNo X14.here hx rfl (hb hby at_112) rfl ((if0 _ _).trans (teq (by decide : (0 : Int32) = (0 : Int32))).2) ?_
    show Steps p.tables e below (T14.setTop (mkF m 115 #[.val (.int p0), .val (.int p1), .val (.int p2), .val (.int p3), .val (.int p4), .val (.int nv), .val (.int mv), .val (.int (0 : Int32)), .val (.int sv), .val (.int tv), .val (.ref b3), .val .null, .val (.ref b4), .val (.int (1 : Int32)), .unset] [])) _
    refine XS.iconst X14.here hx rfl (hb hby at_115) ?_
    refine XS.istore X14.here hx rfl (hb hby at_116) rfl (l' := #[.val (.int p0), .val (.int p1), .val (.int p2), .val (.int p3), .val (.int p4), .val (.int nv), .val (.int mv), .val (.int (0 : Int32)), .val (.int sv), .val (.int tv), .val (.ref b3), .val .null, .val (.ref b4), .val (.int (1 : Int32)), .val (.int (1 : Int32))]) rfl ?_
    refine XS.goto X14.here hx rfl (pc0 := 118) (pc' := 135) rfl (hb hby at_118) (by decide) (by decide) ?_
    refine XS.iload X14.here hx rfl (hb hby at_135) rfl ?_
    refine XS.iload X14.here hx rfl (hb hby at_137) rfl ?_
    refine XS.icmpNo X14.here hx rfl (hb hby at_139) rfl (teq (by decide : (1 : Int32) = (1 : Int32))).2 ?_
    show Steps p.tables e below (T14.setTop (mkF m 142 #[.val (.int p0), .val (.int p1), .val (.int p2), .val (.int p3), .val (.int p4), .val (.int nv), .val (.int mv), .val (.int (0 : Int32)), .val (.int sv), .val (.int tv), .val (.ref b3), .val .null, .val (.ref b4), .val (.int (1 : Int32)), .val (.int (1 : Int32))] [])) _
    refine XS.iconst X14.here hx rfl (hb hby at_142) ?_
    refine XS.goto X14.here hx rfl (pc0 := 143) (pc' := 147) rfl (hb hby at_143) (by decide) (by decide) ?_
    exact retN X14 hx (t := .boolean) Bd.returns (by simp) (hb hby at_147) hr
  · show Q0 n0 _ T14.heap _
    rw [e14]
    exact ⟨rfl, N14⟩
set_option maxRecDepth 65536 in
set_option maxHeartbeats 40000000 in
theorem rm0Nb (l : Launch) (Z : State) (a0 : Array Value) (hw : ∀ d ∈ tables_1, d.before a0 Z = true) (ws : List Jvm.Cond) (p0 : Int32) (p1 : Int32) (p2 : Int32) (p3 : Int32) (p4 : Int32) (nv : Int32) (mv : Int32) (sv : Int32) (tv : Int32) (h0 : Heap) (n0 : Nat) (Z0 : n0 ≤ h0.size) (hn1 : ¬ nv < 0) (hn2 : nv.toNatClampNeg ≤ 3) (hv2 : (p0 &&& (3 : Int32)) = nv) (hv7 : (p1 &&& (3 : Int32)) = mv) (hc13 : (p2 &&& (1 : Int32)) = (0 : Int32)) (hj_sv : (if (p2 &&& (2 : Int32)) = (0 : Int32) then p3 else nv) = sv) (hj_tv : (if (p2 &&& (4 : Int32)) = (0 : Int32) then p4 else mv) = tv) (hcase_81 : ((¬ ((0 : Int32) < nv))) ∨ (((0 : Int32) < nv) ∧ (¬ (0 : Int32) < 0 ∧ (0 : Int32) < nv) ∧ (¬ ((1 : Int32) < nv))) ∨ (((0 : Int32) < nv) ∧ (¬ (0 : Int32) < 0 ∧ (0 : Int32) < nv) ∧ ((1 : Int32) < nv) ∧ (¬ (1 : Int32) < 0 ∧ (1 : Int32) < nv) ∧ (¬ ((2 : Int32) < nv))) ∨ (((0 : Int32) < nv) ∧ (¬ (0 : Int32) < 0 ∧ (0 : Int32) < nv) ∧ ((1 : Int32) < nv) ∧ (¬ (1 : Int32) < 0 ∧ (1 : Int32) < nv) ∧ ((2 : Int32) < nv) ∧ (¬ (2 : Int32) < 0 ∧ (2 : Int32) < nv) ∧ (¬ ((3 : Int32) < nv)))) (hc6_92 : ¬ (nv = sv)) (hc101 : ¬ (sv = nv)) :
    MetFree l x (head1 (Jvm.Cond.code x code maxLocals ret :: ws) room_1) (fun a U => a = #[(.int p0), (.int p1), (.int p2), (.int p3), (.int p4)] ∧ Z.Warmed39 U.vm ∧ U.heap = h0) (fun _ _ _ _ _ => True) (fun _ U o U' => ∃ v L, o = .returned v ∧ Q0 n0 v U'.heap L ∧ ReturnedEndW U o U' L room_1.cells room_1.slots) := by
  refine MetFree.of_bodySF (plainFor_of_name pn_com_example_hedge_hedge_RewardStructureFitsPinLaw) hisR ?_
  intro p e s m args below meth c s₁ Bd hml0 hP hK
  obtain ⟨rfl, hZ, hh⟩ := hP
  have hx := Bd.exec
  have hby := Bd.bytes
  have hml : c.maxLocals = 15 := hml0
  have hown : s.vm.findClass "com/example/hedge/hedge/RewardStructureFitsPinLaw" = some m.cls := findClass_of_methodNamed Bd.named
  have hnm := (name_of_methodNamed Bd.named Bd.method).1
  have X0 : Stand p l e room_1 s m #[(.int p0), (.int p1), (.int p2), (.int p3), (.int p4)] below meth c s₁ [] 0 0 := Stand.of_body Bd
  have e0 : s₁.heap = h0 := by rw [← hh, Bd.state]; rfl
  have N0 := Fr.nil n0
  have pre0 : ∀ t, Steps p.tables e below (s₁.setTop (mkF m 0 #[.val (.int p0), .val (.int p1), .val (.int p2), .val (.int p3), .val (.int p4), .unset, .unset, .unset, .unset, .unset, .unset, .unset, .unset, .unset, .unset] [])) t → Steps p.tables e below (s₁.setTop (entryFrame m #[(.int p0), (.int p1), (.int p2), (.int p3), (.int p4)] maxLocals)) t := fun t k => castTop (ef_0_IIIII m p0 p1 p2 p3 p4) k
  obtain ⟨vm0, k00, X0, hS0, hk0, hZ0, hown0⟩ := own_W0 X0 e0 hZ hown
  have jn1 : ∀ target, Steps p.tables e below (s₁.setTop (mkF m 35 #[.val (.int p0), .val (.int p1), .val (.int p2), .val (.int p3), .val (.int p4), .val (.int nv), .val (.int mv), .val (.int (0 : Int32)), .unset, .unset, .unset, .unset, .unset, .unset, .unset] [(.int sv)])) target → Steps p.tables e below (s₁.setTop (mkF m 26 #[.val (.int p0), .val (.int p1), .val (.int p2), .val (.int p3), .val (.int p4), .val (.int nv), .val (.int mv), .val (.int (0 : Int32)), .unset, .unset, .unset, .unset, .unset, .unset, .unset] [(.int (p2 &&& (2 : Int32)))])) target := by
    intro target kt
    by_cases hq : (p2 &&& (2 : Int32)) = (0 : Int32)
    · rw [if_pos hq] at hj_sv; subst hj_sv
      show Steps p.tables e below (s₁.setTop (mkF m 26 #[.val (.int p0), .val (.int p1), .val (.int p2), .val (.int p3), .val (.int p4), .val (.int nv), .val (.int mv), .val (.int (0 : Int32)), .unset, .unset, .unset, .unset, .unset, .unset, .unset] [(.int (p2 &&& (2 : Int32)))])) _
      refine XS.ifYes X0.here hx rfl (pc0 := 26) (pc' := 34) rfl (hb hby at_26) rfl ((if0 _ _).trans (teq hq).1) (by decide) (by decide) ?_
      refine XS.iloadN X0.here hx rfl (hb hby at_34) rfl ?_
      show Steps p.tables e below (s₁.setTop (mkF m 35 #[.val (.int p0), .val (.int p1), .val (.int p2), .val (.int p3), .val (.int p4), .val (.int nv), .val (.int mv), .val (.int (0 : Int32)), .unset, .unset, .unset, .unset, .unset, .unset, .unset] [(.int p3)])) _
      exact kt
    · rw [if_neg hq] at hj_sv; subst hj_sv
      show Steps p.tables e below (s₁.setTop (mkF m 26 #[.val (.int p0), .val (.int p1), .val (.int p2), .val (.int p3), .val (.int p4), .val (.int nv), .val (.int mv), .val (.int (0 : Int32)), .unset, .unset, .unset, .unset, .unset, .unset, .unset] [(.int (p2 &&& (2 : Int32)))])) _
      refine XS.ifNo X0.here hx rfl (hb hby at_26) rfl ((if0 _ _).trans (feq hq).1) ?_
      refine XS.iload X0.here hx rfl (hb hby at_29) rfl ?_
      show Steps p.tables e below (s₁.setTop (mkF m 31 #[.val (.int p0), .val (.int p1), .val (.int p2), .val (.int p3), .val (.int p4), .val (.int nv), .val (.int mv), .val (.int (0 : Int32)), .unset, .unset, .unset, .unset, .unset, .unset, .unset] [(.int nv)])) _
      refine XS.goto X0.here hx rfl (pc0 := 31) (pc' := 35) rfl (hb hby at_31) (by decide) (by decide) ?_
      show Steps p.tables e below (s₁.setTop (mkF m 35 #[.val (.int p0), .val (.int p1), .val (.int p2), .val (.int p3), .val (.int p4), .val (.int nv), .val (.int mv), .val (.int (0 : Int32)), .unset, .unset, .unset, .unset, .unset, .unset, .unset] [(.int nv)])) _
      exact kt
  have jn2 : ∀ target, Steps p.tables e below (s₁.setTop (mkF m 50 #[.val (.int p0), .val (.int p1), .val (.int p2), .val (.int p3), .val (.int p4), .val (.int nv), .val (.int mv), .val (.int (0 : Int32)), .val (.int sv), .unset, .unset, .unset, .unset, .unset, .unset] [(.int tv)])) target → Steps p.tables e below (s₁.setTop (mkF m 40 #[.val (.int p0), .val (.int p1), .val (.int p2), .val (.int p3), .val (.int p4), .val (.int nv), .val (.int mv), .val (.int (0 : Int32)), .val (.int sv), .unset, .unset, .unset, .unset, .unset, .unset] [(.int (p2 &&& (4 : Int32)))])) target := by
    intro target kt
    by_cases hq : (p2 &&& (4 : Int32)) = (0 : Int32)
    · rw [if_pos hq] at hj_tv; subst hj_tv
      show Steps p.tables e below (s₁.setTop (mkF m 40 #[.val (.int p0), .val (.int p1), .val (.int p2), .val (.int p3), .val (.int p4), .val (.int nv), .val (.int mv), .val (.int (0 : Int32)), .val (.int sv), .unset, .unset, .unset, .unset, .unset, .unset] [(.int (p2 &&& (4 : Int32)))])) _
      refine XS.ifYes X0.here hx rfl (pc0 := 40) (pc' := 48) rfl (hb hby at_40) rfl ((if0 _ _).trans (teq hq).1) (by decide) (by decide) ?_
      refine XS.iload X0.here hx rfl (hb hby at_48) rfl ?_
      show Steps p.tables e below (s₁.setTop (mkF m 50 #[.val (.int p0), .val (.int p1), .val (.int p2), .val (.int p3), .val (.int p4), .val (.int nv), .val (.int mv), .val (.int (0 : Int32)), .val (.int sv), .unset, .unset, .unset, .unset, .unset, .unset] [(.int p4)])) _
      exact kt
    · rw [if_neg hq] at hj_tv; subst hj_tv
      show Steps p.tables e below (s₁.setTop (mkF m 40 #[.val (.int p0), .val (.int p1), .val (.int p2), .val (.int p3), .val (.int p4), .val (.int nv), .val (.int mv), .val (.int (0 : Int32)), .val (.int sv), .unset, .unset, .unset, .unset, .unset, .unset] [(.int (p2 &&& (4 : Int32)))])) _
      refine XS.ifNo X0.here hx rfl (hb hby at_40) rfl ((if0 _ _).trans (feq hq).1) ?_
      refine XS.iload X0.here hx rfl (hb hby at_43) rfl ?_
      refine XS.goto X0.here hx rfl (pc0 := 45) (pc' := 50) rfl (hb hby at_45) (by decide) (by decide) ?_
      show Steps p.tables e below (s₁.setTop (mkF m 50 #[.val (.int p0), .val (.int p1), .val (.int p2), .val (.int p3), .val (.int p4), .val (.int nv), .val (.int mv), .val (.int (0 : Int32)), .val (.int sv), .unset, .unset, .unset, .unset, .unset, .unset] [(.int mv)])) _
      exact kt
  obtain ⟨T3, h3, k3, X3, e3, E3, A3, B3, st3⟩ := newPE X0 hx hZ0 (hw _ (List.mem_of_getElem? (i := 0) rfl)) e0 (g := (mkF m 54 #[.val (.int p0), .val (.int p1), .val (.int p2), .val (.int p3), .val (.int p4), .val (.int nv), .val (.int mv), .val (.int (0 : Int32)), .val (.int sv), .val (.int tv), .unset, .unset, .unset, .unset, .unset] [(.int nv)])) rfl (hb hby at_54) rfl hn1 (cap := 3) hn2 (by decide) (by decide) (by decide) (ad := "[D") rfl
  obtain ⟨b3, g3⟩ : ∃ z, z = h0.size := ⟨_, rfl⟩
  rw [← g3] at A3 st3 B3
  have g_b3 : n0 ≤ b3 := Nat.le_trans Z0 (Nat.le_of_eq g3.symm)
  have sz_b3 : h0.size ≤ b3 := Nat.le_trans (Keep.refl h0 []).1 (Nat.le_of_eq g3.symm)
  have K3 : Keep h0 h3 [] := (Keep.refl h0 []).ext E3
  have Zs3 := Nat.le_trans Z0 E3.1
  have hk3 := Nat.le_trans hk0 E3.1
  have V3 : Arv Z h3 b3 k3 .double nv [] (.double (0 : UInt64)) := Arv.new A3 hn1
  obtain ⟨T4, h4, X4, e4, E4, A4, D4, -, st4⟩ := newO X3 hx hZ0 hown0 (hw _ (List.mem_of_getElem? (i := 1) rfl)) (hw _ (List.mem_of_getElem? (i := 2) rfl)) (hw _ (List.mem_of_getElem? (i := 3) rfl)) e3 (g := (mkF m 73 #[.val (.int p0), .val (.int p1), .val (.int p2), .val (.int p3), .val (.int p4), .val (.int nv), .val (.int mv), .val (.int (0 : Int32)), .val (.int sv), .val (.int tv), .val (.ref b3), .val .null, .unset, .unset, .unset] [])) rfl (hb hby at_73) (by decide) (by decide)
  obtain ⟨b4, g4⟩ : ∃ z, z = h3.size := ⟨_, rfl⟩
  rw [← g4] at A4 D4 st4
  have ne_b3_b4 : b3 ≠ b4 := Nat.ne_of_lt (Nat.lt_of_lt_of_le V3.lt (Nat.le_of_eq g4.symm))
  have g_b4 : n0 ≤ b4 := Nat.le_trans Zs3 (Nat.le_of_eq g4.symm)
  have sz_b4 : h0.size ≤ b4 := Nat.le_trans K3.1 (Nat.le_of_eq g4.symm)
  have f5 := V3.ext E4
  have f6 := B3.ext E4
  have K4 : Keep h0 h4 [] := K3.ext E4
  have Zs4 := Nat.le_trans Zs3 E4.1
  have hk4 := Nat.le_trans hk3 E4.1
  have F4_state : Fld Z h4 b4 "com/example/hedge/hedge/RewardStructure" "state" "[D" .null := D4 (Or.inr (hw _ (List.mem_of_getElem? (i := 25) rfl))) (ty := (.array .double)) (by decide)
  have F4_transition : Fld Z h4 b4 "com/example/hedge/hedge/RewardStructure" "transition" "[D" .null := D4 (Or.inr (hw _ (List.mem_of_getElem? (i := 27) rfl))) (ty := (.array .double)) (by decide)
  obtain ⟨_, _, ⟨T7, L7, k7, n7⟩, -, X7, hs7, gr7, ⟨Lc7, hQ7, lq7, yq7, zq7⟩, st7⟩ := X4.specialBackS hx (y := (⟨"com/example/hedge/hedge/RewardStructure", "<init>", "([D[D)V"⟩ : MethodName)) rfl hown0 (mvT hZ0 (hw _ (List.mem_of_getElem? (i := 4) rfl))) (mvT hZ0 (hw _ (List.mem_of_getElem? (i := 5) rfl))) (mvT hZ0 (hw _ (List.mem_of_getElem? (i := 6) rfl))) (by decide) (backOfS (W := 1) (iniN l Z a0 hw [] b4 b3 nv k3 h4 n0 Zs4 A4 g_b4 F4_state F4_transition f6 f5 (Ne.symm ne_b3_b4) hcase_81) hZ0 (hw _ (List.mem_of_getElem? (i := 6) rfl)) (hw _ (List.mem_of_getElem? (i := 3) rfl)) (by decide) (by decide)) (g := (mkF m 81 #[.val (.int p0), .val (.int p1), .val (.int p2), .val (.int p3), .val (.int p4), .val (.int nv), .val (.int mv), .val (.int (0 : Int32)), .val (.int sv), .val (.int tv), .val (.ref b3), .val .null, .unset, .unset, .unset] [.null, (.ref b3), (.ref b4), (.ref b4)])) rfl (by rw [hml]; rfl) (Steps.refl _) (a := b4) (argsL := [(.ref b3), .null]) (rest := [(.ref b4)]) (lenOf pd_2 rfl) rfl (by show 2 * 0 + _ ≤ _; exact Nat.le_of_eq rfl) (hb hby at_81) (fun _ _ => ⟨rfl, e4, (by decide : 2 + 2 ≤ _), (by decide : 5 + 24 ≤ _)⟩)
  dsimp only [Pt.U, Pt.locs, Pt.cells, Pt.slots] at X7 lq7 yq7 zq7 st7 hQ7 hs7 gr7
  rw [lq7, yq7, zq7] at X7
  obtain ⟨X7, hS7, hZ7, hown7⟩ := own_fold X7 hS0 hs7 (Nat.le_trans (by rw [e4]; exact hk4) gr7) hZ0 hown0
  obtain ⟨rfl, N7q, K7q, f8, f9, f10⟩ := hQ7
  have N7 := Fr.app N0 N7q
  have f11 := f5.keep K7q (own_niS ne_b3_b4 own_ni0)
  have f12 := f6.keep K7q
  have f13 := A4.keep K7q
  have K7 : Keep h0 T7.heap [] := K4.trans K7q (own_allS (Or.inr sz_b4) own_all0)
  have Zs7 := Nat.le_trans Zs4 K7q.1
  have hk7 := Nat.le_trans hk4 K7q.1
  have hkq7 : T7.heap.size ≤ T7.heap.size := Nat.le_refl _
  obtain ⟨cq14, kq14, q14a, q14b, q14c⟩ := isOf hZ7 rfl f8
  obtain ⟨_, _, ⟨T14, L14, k14, n14⟩, -, X14, ⟨Lc14, hQ14, lq14, yq14, zq14⟩, st14⟩ := X7.virtualBack hx (y := (⟨"com/example/hedge/hedge/RewardStructure", "fits", "(II)Z"⟩ : MethodName)) (z := (⟨"com/example/hedge/hedge/RewardStructure", "fits", "(II)Z"⟩ : MethodName)) hown7 (mvT hZ7 (hw _ (List.mem_of_getElem? (i := 28) rfl))) (mvT hZ7 (hw _ (List.mem_of_getElem? (i := 29) rfl))) (notFace_of_selects (args := #[]) (mvT hZ7 (hw _ (List.mem_of_getElem? (i := 31) rfl)))) (mvT hZ7 (hw _ (List.mem_of_getElem? (i := 31) rfl))) (mvT hZ7 (hw _ (List.mem_of_getElem? (i := 30) rfl))) (by decide) (backOf (W := 0) (fNb l Z a0 hw [] b4 sv tv b3 nv k3 T7.heap n0 Zs7 f9 f10 f11 hc6_92) hZ7 (hw _ (List.mem_of_getElem? (i := 32) rfl)) (hw _ (List.mem_of_getElem? (i := 3) rfl)) (by decide) (by decide)) q14a q14c (g := (mkF m 92 #[.val (.int p0), .val (.int p1), .val (.int p2), .val (.int p3), .val (.int p4), .val (.int nv), .val (.int mv), .val (.int (0 : Int32)), .val (.int sv), .val (.int tv), .val (.ref b3), .val .null, .val (.ref b4), .unset, .unset] [(.int tv), (.int sv), (.ref b4)])) rfl (by rw [hml]; rfl) (Steps.refl _) (argsL := [(.int sv), (.int tv)]) (rest := []) (lenOf pd_3 rfl) rfl (by show 2 * 0 + _ ≤ _; exact Nat.le_of_eq rfl) (hb hby at_92) (fun _ _ => ⟨rfl, rfl, (by decide : 4 + 0 ≤ _), (by decide : 29 + 0 ≤ _)⟩)
  dsimp only [Pt.U, Pt.locs, Pt.cells, Pt.slots] at X14 lq14 yq14 zq14 st14 hQ14
  rw [lq14, yq14, zq14] at X14
  obtain ⟨rfl, N14q, eh14⟩ := hQ14
  have N14 := Fr.app N7 N14q
  have e14 : T14.heap = T7.heap := eh14
  obtain ⟨fs, hr, hrun, hended, hRW⟩ := X14.leaveW hS7 (by rw [e14]; exact hkq7) (v := some (.int (1 : Int32))) (fun h => by rw [Bd.returns] at h; cases h)
  refine ⟨_, _, pre0 _ ?_, hrun, hended, _, _, rfl, ?_, ⟨_, rfl⟩, hRW.2.1, hRW.2.2.1, hRW.2.2.2.mono (by decide) (by decide)⟩
  · show Steps p.tables e below (s₁.setTop (mkF m 0 #[.val (.int p0), .val (.int p1), .val (.int p2), .val (.int p3), .val (.int p4), .unset, .unset, .unset, .unset, .unset, .unset, .unset, .unset, .unset, .unset] [])) _
    refine XS.iloadN X0.here hx rfl (hb hby at_0) rfl ?_
    refine XS.iconst X0.here hx rfl (hb hby at_1) ?_
    refine XS.iand X0.here hx rfl (hb hby at_2) rfl ?_
    show Steps p.tables e below (s₁.setTop (mkF m 3 #[.val (.int p0), .val (.int p1), .val (.int p2), .val (.int p3), .val (.int p4), .unset, .unset, .unset, .unset, .unset, .unset, .unset, .unset, .unset, .unset] [(.int (p0 &&& (3 : Int32)))])) _
    rw [hv2]
    show Steps p.tables e below (s₁.setTop (mkF m 3 #[.val (.int p0), .val (.int p1), .val (.int p2), .val (.int p3), .val (.int p4), .unset, .unset, .unset, .unset, .unset, .unset, .unset, .unset, .unset, .unset] [(.int nv)])) _
    refine XS.istore X0.here hx rfl (hb hby at_3) rfl (l' := #[.val (.int p0), .val (.int p1), .val (.int p2), .val (.int p3), .val (.int p4), .val (.int nv), .unset, .unset, .unset, .unset, .unset, .unset, .unset, .unset, .unset]) rfl ?_
    show Steps p.tables e below (s₁.setTop (mkF m 5 #[.val (.int p0), .val (.int p1), .val (.int p2), .val (.int p3), .val (.int p4), .val (.int nv), .unset, .unset, .unset, .unset, .unset, .unset, .unset, .unset, .unset] [])) _
    refine XS.iloadN X0.here hx rfl (hb hby at_5) rfl ?_
    refine XS.iconst X0.here hx rfl (hb hby at_6) ?_
    refine XS.iand X0.here hx rfl (hb hby at_7) rfl ?_
    show Steps p.tables e below (s₁.setTop (mkF m 8 #[.val (.int p0), .val (.int p1), .val (.int p2), .val (.int p3), .val (.int p4), .val (.int nv), .unset, .unset, .unset, .unset, .unset, .unset, .unset, .unset, .unset] [(.int (p1 &&& (3 : Int32)))])) _
    rw [hv7]
    show Steps p.tables e below (s₁.setTop (mkF m 8 #[.val (.int p0), .val (.int p1), .val (.int p2), .val (.int p3), .val (.int p4), .val (.int nv), .unset, .unset, .unset, .unset, .unset, .unset, .unset, .unset, .unset] [(.int mv)])) _
    refine XS.istore X0.here hx rfl (hb hby at_8) rfl (l' := #[.val (.int p0), .val (.int p1), .val (.int p2), .val (.int p3), .val (.int p4), .val (.int nv), .val (.int mv), .unset, .unset, .unset, .unset, .unset, .unset, .unset, .unset]) rfl ?_
    refine XS.iloadN X0.here hx rfl (hb hby at_10) rfl ?_
    show Steps p.tables e below (s₁.setTop (mkF m 11 #[.val (.int p0), .val (.int p1), .val (.int p2), .val (.int p3), .val (.int p4), .val (.int nv), .val (.int mv), .unset, .unset, .unset, .unset, .unset, .unset, .unset, .unset] [(.int p2)])) _
    refine XS.iconst X0.here hx rfl (hb hby at_11) ?_
    refine XS.iand X0.here hx rfl (hb hby at_12) rfl ?_
    refine XS.ifYes X0.here hx rfl (pc0 := 13) (pc' := 20) rfl (hb hby at_13) rfl ((if0 _ _).trans (teq hc13).1) (by decide) (by decide) ?_
    refine XS.iconst X0.here hx rfl (hb hby at_20) ?_
    refine XS.istore X0.here hx rfl (hb hby at_21) rfl (l' := #[.val (.int p0), .val (.int p1), .val (.int p2), .val (.int p3), .val (.int p4), .val (.int nv), .val (.int mv), .val (.int (0 : Int32)), .unset, .unset, .unset, .unset, .unset, .unset, .unset]) rfl ?_
    refine XS.iloadN X0.here hx rfl (hb hby at_23) rfl ?_
    show Steps p.tables e below (s₁.setTop (mkF m 24 #[.val (.int p0), .val (.int p1), .val (.int p2), .val (.int p3), .val (.int p4), .val (.int nv), .val (.int mv), .val (.int (0 : Int32)), .unset, .unset, .unset, .unset, .unset, .unset, .unset] [(.int p2)])) _
    refine XS.iconst X0.here hx rfl (hb hby at_24) ?_
    refine XS.iand X0.here hx rfl (hb hby at_25) rfl ?_
    show Steps p.tables e below (s₁.setTop (mkF m 26 #[.val (.int p0), .val (.int p1), .val (.int p2), .val (.int p3), .val (.int p4), .val (.int nv), .val (.int mv), .val (.int (0 : Int32)), .unset, .unset, .unset, .unset, .unset, .unset, .unset] [(.int (p2 &&& (2 : Int32)))])) _
    refine jn1 _ ?_
    show Steps p.tables e below (s₁.setTop (mkF m 35 #[.val (.int p0), .val (.int p1), .val (.int p2), .val (.int p3), .val (.int p4), .val (.int nv), .val (.int mv), .val (.int (0 : Int32)), .unset, .unset, .unset, .unset, .unset, .unset, .unset] [(.int sv)])) _
    refine XS.istore X0.here hx rfl (hb hby at_35) rfl (l' := #[.val (.int p0), .val (.int p1), .val (.int p2), .val (.int p3), .val (.int p4), .val (.int nv), .val (.int mv), .val (.int (0 : Int32)), .val (.int sv), .unset, .unset, .unset, .unset, .unset, .unset]) rfl ?_
    refine XS.iloadN X0.here hx rfl (hb hby at_37) rfl ?_
    refine XS.iconst X0.here hx rfl (hb hby at_38) ?_
    refine XS.iand X0.here hx rfl (hb hby at_39) rfl ?_
    show Steps p.tables e below (s₁.setTop (mkF m 40 #[.val (.int p0), .val (.int p1), .val (.int p2), .val (.int p3), .val (.int p4), .val (.int nv), .val (.int mv), .val (.int (0 : Int32)), .val (.int sv), .unset, .unset, .unset, .unset, .unset, .unset] [(.int (p2 &&& (4 : Int32)))])) _
    refine jn2 _ ?_
    show Steps p.tables e below (s₁.setTop (mkF m 50 #[.val (.int p0), .val (.int p1), .val (.int p2), .val (.int p3), .val (.int p4), .val (.int nv), .val (.int mv), .val (.int (0 : Int32)), .val (.int sv), .unset, .unset, .unset, .unset, .unset, .unset] [(.int tv)])) _
    refine XS.istore X0.here hx rfl (hb hby at_50) rfl (l' := #[.val (.int p0), .val (.int p1), .val (.int p2), .val (.int p3), .val (.int p4), .val (.int nv), .val (.int mv), .val (.int (0 : Int32)), .val (.int sv), .val (.int tv), .unset, .unset, .unset, .unset, .unset]) rfl ?_
    refine XS.iload X0.here hx rfl (hb hby at_52) rfl ?_
    refine st3 _ ?_
    show Steps p.tables e below (T3.setTop (mkF m 56 #[.val (.int p0), .val (.int p1), .val (.int p2), .val (.int p3), .val (.int p4), .val (.int nv), .val (.int mv), .val (.int (0 : Int32)), .val (.int sv), .val (.int tv), .unset, .unset, .unset, .unset, .unset] [(.ref b3)])) _
    refine XS.astore X3.here hx rfl (hb hby at_56) rfl rfl (l' := #[.val (.int p0), .val (.int p1), .val (.int p2), .val (.int p3), .val (.int p4), .val (.int nv), .val (.int mv), .val (.int (0 : Int32)), .val (.int sv), .val (.int tv), .val (.ref b3), .unset, .unset, .unset, .unset]) rfl ?_
    refine XS.iload X3.here hx rfl (hb hby at_58) rfl ?_
    refine XS.ifYes X3.here hx rfl (pc0 := 60) (pc' := 70) rfl (hb hby at_60) rfl ((if0 _ _).trans (teq (by decide : (0 : Int32) = (0 : Int32))).1) (by decide) (by decide) ?_
    show Steps p.tables e below (T3.setTop (mkF m 70 #[.val (.int p0), .val (.int p1), .val (.int p2), .val (.int p3), .val (.int p4), .val (.int nv), .val (.int mv), .val (.int (0 : Int32)), .val (.int sv), .val (.int tv), .val (.ref b3), .unset, .unset, .unset, .unset] [])) _
    refine XS.aconstNull X3.here hx rfl (hb hby at_70) ?_
    refine XS.astore X3.here hx rfl (hb hby at_71) rfl rfl (l' := #[.val (.int p0), .val (.int p1), .val (.int p2), .val (.int p3), .val (.int p4), .val (.int nv), .val (.int mv), .val (.int (0 : Int32)), .val (.int sv), .val (.int tv), .val (.ref b3), .val .null, .unset, .unset, .unset]) rfl ?_
    refine st4 _ ?_
    show Steps p.tables e below (T4.setTop (mkF m 76 #[.val (.int p0), .val (.int p1), .val (.int p2), .val (.int p3), .val (.int p4), .val (.int nv), .val (.int mv), .val (.int (0 : Int32)), .val (.int sv), .val (.int tv), .val (.ref b3), .val .null, .unset, .unset, .unset] [(.ref b4)])) _
    refine XS.dup X4.here hx rfl (hb hby at_76) rfl rfl ?_
    refine XS.aload X4.here hx rfl (hb hby at_77) rfl rfl ?_
    refine XS.aload X4.here hx rfl (hb hby at_79) rfl rfl ?_
    show Steps p.tables e below (T4.setTop (mkF m 81 #[.val (.int p0), .val (.int p1), .val (.int p2), .val (.int p3), .val (.int p4), .val (.int nv), .val (.int mv), .val (.int (0 : Int32)), .val (.int sv), .val (.int tv), .val (.ref b3), .val .null, .unset, .unset, .unset] [.null, (.ref b3), (.ref b4), (.ref b4)])) _
    refine st7.trans ?_
    show Steps p.tables e below (T7.setTop (mkF m 84 #[.val (.int p0), .val (.int p1), .val (.int p2), .val (.int p3), .val (.int p4), .val (.int nv), .val (.int mv), .val (.int (0 : Int32)), .val (.int sv), .val (.int tv), .val (.ref b3), .val .null, .unset, .unset, .unset] [(.ref b4)])) _
    refine XS.astore X7.here hx rfl (hb hby at_84) rfl rfl (l' := #[.val (.int p0), .val (.int p1), .val (.int p2), .val (.int p3), .val (.int p4), .val (.int nv), .val (.int mv), .val (.int (0 : Int32)), .val (.int sv), .val (.int tv), .val (.ref b3), .val .null, .val (.ref b4), .unset, .unset]) rfl ?_
    refine XS.aload X7.here hx rfl (hb hby at_86) rfl rfl ?_
    refine XS.iload X7.here hx rfl (hb hby at_88) rfl ?_
    refine XS.iload X7.here hx rfl (hb hby at_90) rfl ?_
    refine st14.trans ?_
    show Steps p.tables e below (T14.setTop (mkF m 95 #[.val (.int p0), .val (.int p1), .val (.int p2), .val (.int p3), .val (.int p4), .val (.int nv), .val (.int mv), .val (.int (0 : Int32)), .val (.int sv), .val (.int tv), .val (.ref b3), .val .null, .val (.ref b4), .unset, .unset] [(.int (0 : Int32))])) _
    refine XS.istore X14.here hx rfl (hb hby at_95) rfl (l' := #[.val (.int p0), .val (.int p1), .val (.int p2), .val (.int p3), .val (.int p4), .val (.int nv), .val (.int mv), .val (.int (0 : Int32)), .val (.int sv), .val (.int tv), .val (.ref b3), .val .null, .val (.ref b4), .val (.int (0 : Int32)), .unset]) rfl ?_
    refine XS.iload X14.here hx rfl (hb hby at_97) rfl ?_
    refine XS.iload X14.here hx rfl (hb hby at_99) rfl ?_
    refine XS.icmpNo X14.here hx rfl (hb hby at_101) rfl (feq hc101).1 ?_
    refine XS.iconst X14.here hx rfl (hb hby at_104) ?_
    refine XS.istore X14.here hx rfl (hb hby at_105) rfl (l' := #[.val (.int p0), .val (.int p1), .val (.int p2), .val (.int p3), .val (.int p4), .val (.int nv), .val (.int mv), .val (.int (0 : Int32)), .val (.int sv), .val (.int tv), .val (.ref b3), .val .null, .val (.ref b4), .val (.int (0 : Int32)), .val (.int (0 : Int32))]) rfl ?_
    show Steps p.tables e below (T14.setTop (mkF m 107 #[.val (.int p0), .val (.int p1), .val (.int p2), .val (.int p3), .val (.int p4), .val (.int nv), .val (.int mv), .val (.int (0 : Int32)), .val (.int sv), .val (.int tv), .val (.ref b3), .val .null, .val (.ref b4), .val (.int (0 : Int32)), .val (.int (0 : Int32))] [])) _
    refine XS.goto X14.here hx rfl (pc0 := 107) (pc' := 135) rfl (hb hby at_107) (by decide) (by decide) ?_
    refine XS.iload X14.here hx rfl (hb hby at_135) rfl ?_
    refine XS.iload X14.here hx rfl (hb hby at_137) rfl ?_
    refine XS.icmpNo X14.here hx rfl (hb hby at_139) rfl (teq (by decide : (0 : Int32) = (0 : Int32))).2 ?_
    refine XS.iconst X14.here hx rfl (hb hby at_142) ?_
    refine XS.goto X14.here hx rfl (pc0 := 143) (pc' := 147) rfl (hb hby at_143) (by decide) (by decide) ?_
    show Steps p.tables e below (T14.setTop (mkF m 147 #[.val (.int p0), .val (.int p1), .val (.int p2), .val (.int p3), .val (.int p4), .val (.int nv), .val (.int mv), .val (.int (0 : Int32)), .val (.int sv), .val (.int tv), .val (.ref b3), .val .null, .val (.ref b4), .val (.int (0 : Int32)), .val (.int (0 : Int32))] [(.int (1 : Int32))])) _
    exact retN X14 hx (t := .boolean) Bd.returns (by simp) (hb hby at_147) hr
  · show Q0 n0 _ T14.heap _
    rw [e14]
    exact ⟨rfl, N14⟩
set_option maxRecDepth 65536 in
set_option maxHeartbeats 40000000 in
theorem rm0Ya (l : Launch) (Z : State) (a0 : Array Value) (hw : ∀ d ∈ tables_1, d.before a0 Z = true) (ws : List Jvm.Cond) (p0 : Int32) (p1 : Int32) (p2 : Int32) (p3 : Int32) (p4 : Int32) (nv : Int32) (mv : Int32) (sv : Int32) (tv : Int32) (h0 : Heap) (n0 : Nat) (Z0 : n0 ≤ h0.size) (hn1 : ¬ nv < 0) (hn2 : nv.toNatClampNeg ≤ 3) (hm1 : ¬ mv < 0) (hm2 : mv.toNatClampNeg ≤ 3) (hv2 : (p0 &&& (3 : Int32)) = nv) (hv7 : (p1 &&& (3 : Int32)) = mv) (hc13 : ¬ ((p2 &&& (1 : Int32)) = (0 : Int32))) (hj_sv : (if (p2 &&& (2 : Int32)) = (0 : Int32) then p3 else nv) = sv) (hj_tv : (if (p2 &&& (4 : Int32)) = (0 : Int32) then p4 else mv) = tv) (hcase_81 : ((¬ ((0 : Int32) < nv)) ∧ (¬ ((0 : Int32) < mv))) ∨ ((¬ ((0 : Int32) < nv)) ∧ ((0 : Int32) < mv) ∧ (¬ (0 : Int32) < 0 ∧ (0 : Int32) < mv) ∧ (¬ ((1 : Int32) < mv))) ∨ ((¬ ((0 : Int32) < nv)) ∧ ((0 : Int32) < mv) ∧ (¬ (0 : Int32) < 0 ∧ (0 : Int32) < mv) ∧ ((1 : Int32) < mv) ∧ (¬ (1 : Int32) < 0 ∧ (1 : Int32) < mv) ∧ (¬ ((2 : Int32) < mv))) ∨ ((¬ ((0 : Int32) < nv)) ∧ ((0 : Int32) < mv) ∧ (¬ (0 : Int32) < 0 ∧ (0 : Int32) < mv) ∧ ((1 : Int32) < mv) ∧ (¬ (1 : Int32) < 0 ∧ (1 : Int32) < mv) ∧ ((2 : Int32) < mv) ∧ (¬ (2 : Int32) < 0 ∧ (2 : Int32) < mv) ∧ (¬ ((3 : Int32) < mv))) ∨ (((0 : Int32) < nv) ∧ (¬ (0 : Int32) < 0 ∧ (0 : Int32) < nv) ∧ (¬ ((1 : Int32) < nv)) ∧ (¬ ((0 : Int32) < mv))) ∨ (((0 : Int32) < nv) ∧ (¬ (0 : Int32) < 0 ∧ (0 : Int32) < nv) ∧ (¬ ((1 : Int32) < nv)) ∧ ((0 : Int32) < mv) ∧ (¬ (0 : Int32) < 0 ∧ (0 : Int32) < mv) ∧ (¬ ((1 : Int32) < mv))) ∨ (((0 : Int32) < nv) ∧ (¬ (0 : Int32) < 0 ∧ (0 : Int32) < nv) ∧ (¬ ((1 : Int32) < nv)) ∧ ((0 : Int32) < mv) ∧ (¬ (0 : Int32) < 0 ∧ (0 : Int32) < mv) ∧ ((1 : Int32) < mv) ∧ (¬ (1 : Int32) < 0 ∧ (1 : Int32) < mv) ∧ (¬ ((2 : Int32) < mv))) ∨ (((0 : Int32) < nv) ∧ (¬ (0 : Int32) < 0 ∧ (0 : Int32) < nv) ∧ (¬ ((1 : Int32) < nv)) ∧ ((0 : Int32) < mv) ∧ (¬ (0 : Int32) < 0 ∧ (0 : Int32) < mv) ∧ ((1 : Int32) < mv) ∧ (¬ (1 : Int32) < 0 ∧ (1 : Int32) < mv) ∧ ((2 : Int32) < mv) ∧ (¬ (2 : Int32) < 0 ∧ (2 : Int32) < mv) ∧ (¬ ((3 : Int32) < mv))) ∨ (((0 : Int32) < nv) ∧ (¬ (0 : Int32) < 0 ∧ (0 : Int32) < nv) ∧ ((1 : Int32) < nv) ∧ (¬ (1 : Int32) < 0 ∧ (1 : Int32) < nv) ∧ (¬ ((2 : Int32) < nv)) ∧ (¬ ((0 : Int32) < mv))) ∨ (((0 : Int32) < nv) ∧ (¬ (0 : Int32) < 0 ∧ (0 : Int32) < nv) ∧ ((1 : Int32) < nv) ∧ (¬ (1 : Int32) < 0 ∧ (1 : Int32) < nv) ∧ (¬ ((2 : Int32) < nv)) ∧ ((0 : Int32) < mv) ∧ (¬ (0 : Int32) < 0 ∧ (0 : Int32) < mv) ∧ (¬ ((1 : Int32) < mv))) ∨ (((0 : Int32) < nv) ∧ (¬ (0 : Int32) < 0 ∧ (0 : Int32) < nv) ∧ ((1 : Int32) < nv) ∧ (¬ (1 : Int32) < 0 ∧ (1 : Int32) < nv) ∧ (¬ ((2 : Int32) < nv)) ∧ ((0 : Int32) < mv) ∧ (¬ (0 : Int32) < 0 ∧ (0 : Int32) < mv) ∧ ((1 : Int32) < mv) ∧ (¬ (1 : Int32) < 0 ∧ (1 : Int32) < mv) ∧ (¬ ((2 : Int32) < mv))) ∨ (((0 : Int32) < nv) ∧ (¬ (0 : Int32) < 0 ∧ (0 : Int32) < nv) ∧ ((1 : Int32) < nv) ∧ (¬ (1 : Int32) < 0 ∧ (1 : Int32) < nv) ∧ (¬ ((2 : Int32) < nv)) ∧ ((0 : Int32) < mv) ∧ (¬ (0 : Int32) < 0 ∧ (0 : Int32) < mv) ∧ ((1 : Int32) < mv) ∧ (¬ (1 : Int32) < 0 ∧ (1 : Int32) < mv) ∧ ((2 : Int32) < mv) ∧ (¬ (2 : Int32) < 0 ∧ (2 : Int32) < mv) ∧ (¬ ((3 : Int32) < mv))) ∨ (((0 : Int32) < nv) ∧ (¬ (0 : Int32) < 0 ∧ (0 : Int32) < nv) ∧ ((1 : Int32) < nv) ∧ (¬ (1 : Int32) < 0 ∧ (1 : Int32) < nv) ∧ ((2 : Int32) < nv) ∧ (¬ (2 : Int32) < 0 ∧ (2 : Int32) < nv) ∧ (¬ ((3 : Int32) < nv)) ∧ (¬ ((0 : Int32) < mv))) ∨ (((0 : Int32) < nv) ∧ (¬ (0 : Int32) < 0 ∧ (0 : Int32) < nv) ∧ ((1 : Int32) < nv) ∧ (¬ (1 : Int32) < 0 ∧ (1 : Int32) < nv) ∧ ((2 : Int32) < nv) ∧ (¬ (2 : Int32) < 0 ∧ (2 : Int32) < nv) ∧ (¬ ((3 : Int32) < nv)) ∧ ((0 : Int32) < mv) ∧ (¬ (0 : Int32) < 0 ∧ (0 : Int32) < mv) ∧ (¬ ((1 : Int32) < mv))) ∨ (((0 : Int32) < nv) ∧ (¬ (0 : Int32) < 0 ∧ (0 : Int32) < nv) ∧ ((1 : Int32) < nv) ∧ (¬ (1 : Int32) < 0 ∧ (1 : Int32) < nv) ∧ ((2 : Int32) < nv) ∧ (¬ (2 : Int32) < 0 ∧ (2 : Int32) < nv) ∧ (¬ ((3 : Int32) < nv)) ∧ ((0 : Int32) < mv) ∧ (¬ (0 : Int32) < 0 ∧ (0 : Int32) < mv) ∧ ((1 : Int32) < mv) ∧ (¬ (1 : Int32) < 0 ∧ (1 : Int32) < mv) ∧ (¬ ((2 : Int32) < mv))) ∨ (((0 : Int32) < nv) ∧ (¬ (0 : Int32) < 0 ∧ (0 : Int32) < nv) ∧ ((1 : Int32) < nv) ∧ (¬ (1 : Int32) < 0 ∧ (1 : Int32) < nv) ∧ ((2 : Int32) < nv) ∧ (¬ (2 : Int32) < 0 ∧ (2 : Int32) < nv) ∧ (¬ ((3 : Int32) < nv)) ∧ ((0 : Int32) < mv) ∧ (¬ (0 : Int32) < 0 ∧ (0 : Int32) < mv) ∧ ((1 : Int32) < mv) ∧ (¬ (1 : Int32) < 0 ∧ (1 : Int32) < mv) ∧ ((2 : Int32) < mv) ∧ (¬ (2 : Int32) < 0 ∧ (2 : Int32) < mv) ∧ (¬ ((3 : Int32) < mv)))) (hc6_92 : ¬ (nv = sv)) (hc101 : ¬ (sv = nv)) :
    MetFree l x (head1 (Jvm.Cond.code x code maxLocals ret :: ws) room_1) (fun a U => a = #[(.int p0), (.int p1), (.int p2), (.int p3), (.int p4)] ∧ Z.Warmed39 U.vm ∧ U.heap = h0) (fun _ _ _ _ _ => True) (fun _ U o U' => ∃ v L, o = .returned v ∧ Q0 n0 v U'.heap L ∧ ReturnedEndW U o U' L room_1.cells room_1.slots) := by
  refine MetFree.of_bodySF (plainFor_of_name pn_com_example_hedge_hedge_RewardStructureFitsPinLaw) hisR ?_
  intro p e s m args below meth c s₁ Bd hml0 hP hK
  obtain ⟨rfl, hZ, hh⟩ := hP
  have hx := Bd.exec
  have hby := Bd.bytes
  have hml : c.maxLocals = 15 := hml0
  have hown : s.vm.findClass "com/example/hedge/hedge/RewardStructureFitsPinLaw" = some m.cls := findClass_of_methodNamed Bd.named
  have hnm := (name_of_methodNamed Bd.named Bd.method).1
  have X0 : Stand p l e room_1 s m #[(.int p0), (.int p1), (.int p2), (.int p3), (.int p4)] below meth c s₁ [] 0 0 := Stand.of_body Bd
  have e0 : s₁.heap = h0 := by rw [← hh, Bd.state]; rfl
  have N0 := Fr.nil n0
  have pre0 : ∀ t, Steps p.tables e below (s₁.setTop (mkF m 0 #[.val (.int p0), .val (.int p1), .val (.int p2), .val (.int p3), .val (.int p4), .unset, .unset, .unset, .unset, .unset, .unset, .unset, .unset, .unset, .unset] [])) t → Steps p.tables e below (s₁.setTop (entryFrame m #[(.int p0), (.int p1), (.int p2), (.int p3), (.int p4)] maxLocals)) t := fun t k => castTop (ef_0_IIIII m p0 p1 p2 p3 p4) k
  obtain ⟨vm0, k00, X0, hS0, hk0, hZ0, hown0⟩ := own_W0 X0 e0 hZ hown
  have jn1 : ∀ target, Steps p.tables e below (s₁.setTop (mkF m 35 #[.val (.int p0), .val (.int p1), .val (.int p2), .val (.int p3), .val (.int p4), .val (.int nv), .val (.int mv), .val (.int (1 : Int32)), .unset, .unset, .unset, .unset, .unset, .unset, .unset] [(.int sv)])) target → Steps p.tables e below (s₁.setTop (mkF m 26 #[.val (.int p0), .val (.int p1), .val (.int p2), .val (.int p3), .val (.int p4), .val (.int nv), .val (.int mv), .val (.int (1 : Int32)), .unset, .unset, .unset, .unset, .unset, .unset, .unset] [(.int (p2 &&& (2 : Int32)))])) target := by
    intro target kt
    by_cases hq : (p2 &&& (2 : Int32)) = (0 : Int32)
    · rw [if_pos hq] at hj_sv; subst hj_sv
      show Steps p.tables e below (s₁.setTop (mkF m 26 #[.val (.int p0), .val (.int p1), .val (.int p2), .val (.int p3), .val (.int p4), .val (.int nv), .val (.int mv), .val (.int (1 : Int32)), .unset, .unset, .unset, .unset, .unset, .unset, .unset] [(.int (p2 &&& (2 : Int32)))])) _
      refine XS.ifYes X0.here hx rfl (pc0 := 26) (pc' := 34) rfl (hb hby at_26) rfl ((if0 _ _).trans (teq hq).1) (by decide) (by decide) ?_
      refine XS.iloadN X0.here hx rfl (hb hby at_34) rfl ?_
      show Steps p.tables e below (s₁.setTop (mkF m 35 #[.val (.int p0), .val (.int p1), .val (.int p2), .val (.int p3), .val (.int p4), .val (.int nv), .val (.int mv), .val (.int (1 : Int32)), .unset, .unset, .unset, .unset, .unset, .unset, .unset] [(.int p3)])) _
      exact kt
    · rw [if_neg hq] at hj_sv; subst hj_sv
      show Steps p.tables e below (s₁.setTop (mkF m 26 #[.val (.int p0), .val (.int p1), .val (.int p2), .val (.int p3), .val (.int p4), .val (.int nv), .val (.int mv), .val (.int (1 : Int32)), .unset, .unset, .unset, .unset, .unset, .unset, .unset] [(.int (p2 &&& (2 : Int32)))])) _
      refine XS.ifNo X0.here hx rfl (hb hby at_26) rfl ((if0 _ _).trans (feq hq).1) ?_
      show Steps p.tables e below (s₁.setTop (mkF m 29 #[.val (.int p0), .val (.int p1), .val (.int p2), .val (.int p3), .val (.int p4), .val (.int nv), .val (.int mv), .val (.int (1 : Int32)), .unset, .unset, .unset, .unset, .unset, .unset, .unset] [])) _
      refine XS.iload X0.here hx rfl (hb hby at_29) rfl ?_
      refine XS.goto X0.here hx rfl (pc0 := 31) (pc' := 35) rfl (hb hby at_31) (by decide) (by decide) ?_
      show Steps p.tables e below (s₁.setTop (mkF m 35 #[.val (.int p0), .val (.int p1), .val (.int p2), .val (.int p3), .val (.int p4), .val (.int nv), .val (.int mv), .val (.int (1 : Int32)), .unset, .unset, .unset, .unset, .unset, .unset, .unset] [(.int nv)])) _
      exact kt
  have jn2 : ∀ target, Steps p.tables e below (s₁.setTop (mkF m 50 #[.val (.int p0), .val (.int p1), .val (.int p2), .val (.int p3), .val (.int p4), .val (.int nv), .val (.int mv), .val (.int (1 : Int32)), .val (.int sv), .unset, .unset, .unset, .unset, .unset, .unset] [(.int tv)])) target → Steps p.tables e below (s₁.setTop (mkF m 40 #[.val (.int p0), .val (.int p1), .val (.int p2), .val (.int p3), .val (.int p4), .val (.int nv), .val (.int mv), .val (.int (1 : Int32)), .val (.int sv), .unset, .unset, .unset, .unset, .unset, .unset] [(.int (p2 &&& (4 : Int32)))])) target := by
    intro target kt
    by_cases hq : (p2 &&& (4 : Int32)) = (0 : Int32)
    · rw [if_pos hq] at hj_tv; subst hj_tv
      show Steps p.tables e below (s₁.setTop (mkF m 40 #[.val (.int p0), .val (.int p1), .val (.int p2), .val (.int p3), .val (.int p4), .val (.int nv), .val (.int mv), .val (.int (1 : Int32)), .val (.int sv), .unset, .unset, .unset, .unset, .unset, .unset] [(.int (p2 &&& (4 : Int32)))])) _
      refine XS.ifYes X0.here hx rfl (pc0 := 40) (pc' := 48) rfl (hb hby at_40) rfl ((if0 _ _).trans (teq hq).1) (by decide) (by decide) ?_
      refine XS.iload X0.here hx rfl (hb hby at_48) rfl ?_
      show Steps p.tables e below (s₁.setTop (mkF m 50 #[.val (.int p0), .val (.int p1), .val (.int p2), .val (.int p3), .val (.int p4), .val (.int nv), .val (.int mv), .val (.int (1 : Int32)), .val (.int sv), .unset, .unset, .unset, .unset, .unset, .unset] [(.int p4)])) _
      exact kt
    · rw [if_neg hq] at hj_tv; subst hj_tv
      show Steps p.tables e below (s₁.setTop (mkF m 40 #[.val (.int p0), .val (.int p1), .val (.int p2), .val (.int p3), .val (.int p4), .val (.int nv), .val (.int mv), .val (.int (1 : Int32)), .val (.int sv), .unset, .unset, .unset, .unset, .unset, .unset] [(.int (p2 &&& (4 : Int32)))])) _
      refine XS.ifNo X0.here hx rfl (hb hby at_40) rfl ((if0 _ _).trans (feq hq).1) ?_
      refine XS.iload X0.here hx rfl (hb hby at_43) rfl ?_
      refine XS.goto X0.here hx rfl (pc0 := 45) (pc' := 50) rfl (hb hby at_45) (by decide) (by decide) ?_
      show Steps p.tables e below (s₁.setTop (mkF m 50 #[.val (.int p0), .val (.int p1), .val (.int p2), .val (.int p3), .val (.int p4), .val (.int nv), .val (.int mv), .val (.int (1 : Int32)), .val (.int sv), .unset, .unset, .unset, .unset, .unset, .unset] [(.int mv)])) _
      exact kt
  obtain ⟨T3, h3, k3, X3, e3, E3, A3, B3, st3⟩ := newPE X0 hx hZ0 (hw _ (List.mem_of_getElem? (i := 0) rfl)) e0 (g := (mkF m 54 #[.val (.int p0), .val (.int p1), .val (.int p2), .val (.int p3), .val (.int p4), .val (.int nv), .val (.int mv), .val (.int (1 : Int32)), .val (.int sv), .val (.int tv), .unset, .unset, .unset, .unset, .unset] [(.int nv)])) rfl (hb hby at_54) rfl hn1 (cap := 3) hn2 (by decide) (by decide) (by decide) (ad := "[D") rfl
  obtain ⟨b3, g3⟩ : ∃ z, z = h0.size := ⟨_, rfl⟩
  rw [← g3] at A3 st3 B3
  have g_b3 : n0 ≤ b3 := Nat.le_trans Z0 (Nat.le_of_eq g3.symm)
  have sz_b3 : h0.size ≤ b3 := Nat.le_trans (Keep.refl h0 []).1 (Nat.le_of_eq g3.symm)
  have K3 : Keep h0 h3 [] := (Keep.refl h0 []).ext E3
  have Zs3 := Nat.le_trans Z0 E3.1
  have hk3 := Nat.le_trans hk0 E3.1
  have V3 : Arv Z h3 b3 k3 .double nv [] (.double (0 : UInt64)) := Arv.new A3 hn1
  obtain ⟨T4, h4, k4, X4, e4, E4, A4, st4⟩ := newP X3 hx hZ0 (hw _ (List.mem_of_getElem? (i := 0) rfl)) e3 (g := (mkF m 65 #[.val (.int p0), .val (.int p1), .val (.int p2), .val (.int p3), .val (.int p4), .val (.int nv), .val (.int mv), .val (.int (1 : Int32)), .val (.int sv), .val (.int tv), .val (.ref b3), .unset, .unset, .unset, .unset] [(.int mv)])) rfl (hb hby at_65) rfl hm1 (cap := 3) hm2 (by decide) (by decide) (by decide)
  obtain ⟨b4, g4⟩ : ∃ z, z = h3.size := ⟨_, rfl⟩
  rw [← g4] at A4 st4
  have ne_b3_b4 : b3 ≠ b4 := Nat.ne_of_lt (Nat.lt_of_lt_of_le V3.lt (Nat.le_of_eq g4.symm))
  have g_b4 : n0 ≤ b4 := Nat.le_trans Zs3 (Nat.le_of_eq g4.symm)
  have sz_b4 : h0.size ≤ b4 := Nat.le_trans K3.1 (Nat.le_of_eq g4.symm)
  have f5 := V3.ext E4
  have f6 := B3.ext E4
  have K4 : Keep h0 h4 [] := K3.ext E4
  have Zs4 := Nat.le_trans Zs3 E4.1
  have hk4 := Nat.le_trans hk3 E4.1
  have V4 : Arv Z h4 b4 k4 .double mv [] (.double (0 : UInt64)) := Arv.new A4 hm1
  obtain ⟨T7, h7, X7, e7, E7, A7, D7, -, st7⟩ := newO X4 hx hZ0 hown0 (hw _ (List.mem_of_getElem? (i := 1) rfl)) (hw _ (List.mem_of_getElem? (i := 2) rfl)) (hw _ (List.mem_of_getElem? (i := 3) rfl)) e4 (g := (mkF m 73 #[.val (.int p0), .val (.int p1), .val (.int p2), .val (.int p3), .val (.int p4), .val (.int nv), .val (.int mv), .val (.int (1 : Int32)), .val (.int sv), .val (.int tv), .val (.ref b3), .val (.ref b4), .unset, .unset, .unset] [])) rfl (hb hby at_73) (by decide) (by decide)
  obtain ⟨b7, g7⟩ : ∃ z, z = h4.size := ⟨_, rfl⟩
  rw [← g7] at A7 D7 st7
  have ne_b3_b7 : b3 ≠ b7 := Nat.ne_of_lt (Nat.lt_of_lt_of_le f5.lt (Nat.le_of_eq g7.symm))
  have ne_b4_b7 : b4 ≠ b7 := Nat.ne_of_lt (Nat.lt_of_lt_of_le V4.lt (Nat.le_of_eq g7.symm))
  have g_b7 : n0 ≤ b7 := Nat.le_trans Zs4 (Nat.le_of_eq g7.symm)
  have sz_b7 : h0.size ≤ b7 := Nat.le_trans K4.1 (Nat.le_of_eq g7.symm)
  have f8 := f5.ext E7
  have f9 := f6.ext E7
  have f10 := V4.ext E7
  have K7 : Keep h0 h7 [] := K4.ext E7
  have Zs7 := Nat.le_trans Zs4 E7.1
  have hk7 := Nat.le_trans hk4 E7.1
  have F7_state : Fld Z h7 b7 "com/example/hedge/hedge/RewardStructure" "state" "[D" .null := D7 (Or.inr (hw _ (List.mem_of_getElem? (i := 25) rfl))) (ty := (.array .double)) (by decide)
  have F7_transition : Fld Z h7 b7 "com/example/hedge/hedge/RewardStructure" "transition" "[D" .null := D7 (Or.inr (hw _ (List.mem_of_getElem? (i := 27) rfl))) (ty := (.array .double)) (by decide)
  obtain ⟨_, _, ⟨T11, L11, k11, n11⟩, -, X11, hs11, gr11, ⟨Lc11, hQ11, lq11, yq11, zq11⟩, st11⟩ := X7.specialBackS hx (y := (⟨"com/example/hedge/hedge/RewardStructure", "<init>", "([D[D)V"⟩ : MethodName)) rfl hown0 (mvT hZ0 (hw _ (List.mem_of_getElem? (i := 4) rfl))) (mvT hZ0 (hw _ (List.mem_of_getElem? (i := 5) rfl))) (mvT hZ0 (hw _ (List.mem_of_getElem? (i := 6) rfl))) (by decide) (backOfS (W := 1) (iniY l Z a0 hw [] b7 b3 b4 nv k3 mv k4 h7 n0 Zs7 A7 g_b7 F7_state F7_transition f9 f8 f10 (Ne.symm ne_b3_b7) (Ne.symm ne_b4_b7) hcase_81) hZ0 (hw _ (List.mem_of_getElem? (i := 6) rfl)) (hw _ (List.mem_of_getElem? (i := 3) rfl)) (by decide) (by decide)) (g := (mkF m 81 #[.val (.int p0), .val (.int p1), .val (.int p2), .val (.int p3), .val (.int p4), .val (.int nv), .val (.int mv), .val (.int (1 : Int32)), .val (.int sv), .val (.int tv), .val (.ref b3), .val (.ref b4), .unset, .unset, .unset] [(.ref b4), (.ref b3), (.ref b7), (.ref b7)])) rfl (by rw [hml]; rfl) (Steps.refl _) (a := b7) (argsL := [(.ref b3), (.ref b4)]) (rest := [(.ref b7)]) (lenOf pd_2 rfl) rfl (by show 2 * 0 + _ ≤ _; exact Nat.le_of_eq rfl) (hb hby at_81) (fun _ _ => ⟨rfl, e7, (by decide : 3 + 2 ≤ _), (by decide : 8 + 24 ≤ _)⟩)
  dsimp only [Pt.U, Pt.locs, Pt.cells, Pt.slots] at X11 lq11 yq11 zq11 st11 hQ11 hs11 gr11
  rw [lq11, yq11, zq11] at X11
  obtain ⟨X11, hS11, hZ11, hown11⟩ := own_fold X11 hS0 hs11 (Nat.le_trans (by rw [e7]; exact hk7) gr11) hZ0 hown0
  obtain ⟨rfl, N11q, K11q, f12, f13, f14⟩ := hQ11
  have N11 := Fr.app N0 N11q
  have f15 := f8.keep K11q (own_niS ne_b3_b7 own_ni0)
  have f16 := f9.keep K11q
  have f17 := f10.keep K11q (own_niS ne_b4_b7 own_ni0)
  have f18 := A7.keep K11q
  have K11 : Keep h0 T11.heap [] := K7.trans K11q (own_allS (Or.inr sz_b7) own_all0)
  have Zs11 := Nat.le_trans Zs7 K11q.1
  have hk11 := Nat.le_trans hk7 K11q.1
  have hkq11 : T11.heap.size ≤ T11.heap.size := Nat.le_refl _
  obtain ⟨cq19, kq19, q19a, q19b, q19c⟩ := isOf hZ11 rfl f12
  obtain ⟨_, _, ⟨T19, L19, k19, n19⟩, -, X19, ⟨Lc19, hQ19, lq19, yq19, zq19⟩, st19⟩ := X11.virtualBack hx (y := (⟨"com/example/hedge/hedge/RewardStructure", "fits", "(II)Z"⟩ : MethodName)) (z := (⟨"com/example/hedge/hedge/RewardStructure", "fits", "(II)Z"⟩ : MethodName)) hown11 (mvT hZ11 (hw _ (List.mem_of_getElem? (i := 28) rfl))) (mvT hZ11 (hw _ (List.mem_of_getElem? (i := 29) rfl))) (notFace_of_selects (args := #[]) (mvT hZ11 (hw _ (List.mem_of_getElem? (i := 31) rfl)))) (mvT hZ11 (hw _ (List.mem_of_getElem? (i := 31) rfl))) (mvT hZ11 (hw _ (List.mem_of_getElem? (i := 30) rfl))) (by decide) (backOf (W := 0) (fYa l Z a0 hw [] b7 sv tv b3 b4 nv k3 mv k4 T11.heap n0 Zs11 f13 f14 f15 f17 hc6_92) hZ11 (hw _ (List.mem_of_getElem? (i := 32) rfl)) (hw _ (List.mem_of_getElem? (i := 3) rfl)) (by decide) (by decide)) q19a q19c (g := (mkF m 92 #[.val (.int p0), .val (.int p1), .val (.int p2), .val (.int p3), .val (.int p4), .val (.int nv), .val (.int mv), .val (.int (1 : Int32)), .val (.int sv), .val (.int tv), .val (.ref b3), .val (.ref b4), .val (.ref b7), .unset, .unset] [(.int tv), (.int sv), (.ref b7)])) rfl (by rw [hml]; rfl) (Steps.refl _) (argsL := [(.int sv), (.int tv)]) (rest := []) (lenOf pd_3 rfl) rfl (by show 2 * 0 + _ ≤ _; exact Nat.le_of_eq rfl) (hb hby at_92) (fun _ _ => ⟨rfl, rfl, (by decide : 5 + 0 ≤ _), (by decide : 32 + 0 ≤ _)⟩)
  dsimp only [Pt.U, Pt.locs, Pt.cells, Pt.slots] at X19 lq19 yq19 zq19 st19 hQ19
  rw [lq19, yq19, zq19] at X19
  obtain ⟨rfl, N19q, eh19⟩ := hQ19
  have N19 := Fr.app N11 N19q
  have e19 : T19.heap = T11.heap := eh19
  obtain ⟨fs, hr, hrun, hended, hRW⟩ := X19.leaveW hS11 (by rw [e19]; exact hkq11) (v := some (.int (1 : Int32))) (fun h => by rw [Bd.returns] at h; cases h)
  refine ⟨_, _, pre0 _ ?_, hrun, hended, _, _, rfl, ?_, ⟨_, rfl⟩, hRW.2.1, hRW.2.2.1, hRW.2.2.2.mono (by decide) (by decide)⟩
  · show Steps p.tables e below (s₁.setTop (mkF m 0 #[.val (.int p0), .val (.int p1), .val (.int p2), .val (.int p3), .val (.int p4), .unset, .unset, .unset, .unset, .unset, .unset, .unset, .unset, .unset, .unset] [])) _
    refine XS.iloadN X0.here hx rfl (hb hby at_0) rfl ?_
    refine XS.iconst X0.here hx rfl (hb hby at_1) ?_
    refine XS.iand X0.here hx rfl (hb hby at_2) rfl ?_
    show Steps p.tables e below (s₁.setTop (mkF m 3 #[.val (.int p0), .val (.int p1), .val (.int p2), .val (.int p3), .val (.int p4), .unset, .unset, .unset, .unset, .unset, .unset, .unset, .unset, .unset, .unset] [(.int (p0 &&& (3 : Int32)))])) _
    rw [hv2]
    show Steps p.tables e below (s₁.setTop (mkF m 3 #[.val (.int p0), .val (.int p1), .val (.int p2), .val (.int p3), .val (.int p4), .unset, .unset, .unset, .unset, .unset, .unset, .unset, .unset, .unset, .unset] [(.int nv)])) _
    refine XS.istore X0.here hx rfl (hb hby at_3) rfl (l' := #[.val (.int p0), .val (.int p1), .val (.int p2), .val (.int p3), .val (.int p4), .val (.int nv), .unset, .unset, .unset, .unset, .unset, .unset, .unset, .unset, .unset]) rfl ?_
    show Steps p.tables e below (s₁.setTop (mkF m 5 #[.val (.int p0), .val (.int p1), .val (.int p2), .val (.int p3), .val (.int p4), .val (.int nv), .unset, .unset, .unset, .unset, .unset, .unset, .unset, .unset, .unset] [])) _
    refine XS.iloadN X0.here hx rfl (hb hby at_5) rfl ?_
    refine XS.iconst X0.here hx rfl (hb hby at_6) ?_
    refine XS.iand X0.here hx rfl (hb hby at_7) rfl ?_
    show Steps p.tables e below (s₁.setTop (mkF m 8 #[.val (.int p0), .val (.int p1), .val (.int p2), .val (.int p3), .val (.int p4), .val (.int nv), .unset, .unset, .unset, .unset, .unset, .unset, .unset, .unset, .unset] [(.int (p1 &&& (3 : Int32)))])) _
    rw [hv7]
    show Steps p.tables e below (s₁.setTop (mkF m 8 #[.val (.int p0), .val (.int p1), .val (.int p2), .val (.int p3), .val (.int p4), .val (.int nv), .unset, .unset, .unset, .unset, .unset, .unset, .unset, .unset, .unset] [(.int mv)])) _
    refine XS.istore X0.here hx rfl (hb hby at_8) rfl (l' := #[.val (.int p0), .val (.int p1), .val (.int p2), .val (.int p3), .val (.int p4), .val (.int nv), .val (.int mv), .unset, .unset, .unset, .unset, .unset, .unset, .unset, .unset]) rfl ?_
    refine XS.iloadN X0.here hx rfl (hb hby at_10) rfl ?_
    show Steps p.tables e below (s₁.setTop (mkF m 11 #[.val (.int p0), .val (.int p1), .val (.int p2), .val (.int p3), .val (.int p4), .val (.int nv), .val (.int mv), .unset, .unset, .unset, .unset, .unset, .unset, .unset, .unset] [(.int p2)])) _
    refine XS.iconst X0.here hx rfl (hb hby at_11) ?_
    refine XS.iand X0.here hx rfl (hb hby at_12) rfl ?_
    refine XS.ifNo X0.here hx rfl (hb hby at_13) rfl ((if0 _ _).trans (feq hc13).1) ?_
    refine XS.iconst X0.here hx rfl (hb hby at_16) ?_
    refine XS.goto X0.here hx rfl (pc0 := 17) (pc' := 21) rfl (hb hby at_17) (by decide) (by decide) ?_
    refine XS.istore X0.here hx rfl (hb hby at_21) rfl (l' := #[.val (.int p0), .val (.int p1), .val (.int p2), .val (.int p3), .val (.int p4), .val (.int nv), .val (.int mv), .val (.int (1 : Int32)), .unset, .unset, .unset, .unset, .unset, .unset, .unset]) rfl ?_
    show Steps p.tables e below (s₁.setTop (mkF m 23 #[.val (.int p0), .val (.int p1), .val (.int p2), .val (.int p3), .val (.int p4), .val (.int nv), .val (.int mv), .val (.int (1 : Int32)), .unset, .unset, .unset, .unset, .unset, .unset, .unset] [])) _
    refine XS.iloadN X0.here hx rfl (hb hby at_23) rfl ?_
    refine XS.iconst X0.here hx rfl (hb hby at_24) ?_
    refine XS.iand X0.here hx rfl (hb hby at_25) rfl ?_
    show Steps p.tables e below (s₁.setTop (mkF m 26 #[.val (.int p0), .val (.int p1), .val (.int p2), .val (.int p3), .val (.int p4), .val (.int nv), .val (.int mv), .val (.int (1 : Int32)), .unset, .unset, .unset, .unset, .unset, .unset, .unset] [(.int (p2 &&& (2 : Int32)))])) _
    refine jn1 _ ?_
    show Steps p.tables e below (s₁.setTop (mkF m 35 #[.val (.int p0), .val (.int p1), .val (.int p2), .val (.int p3), .val (.int p4), .val (.int nv), .val (.int mv), .val (.int (1 : Int32)), .unset, .unset, .unset, .unset, .unset, .unset, .unset] [(.int sv)])) _
    refine XS.istore X0.here hx rfl (hb hby at_35) rfl (l' := #[.val (.int p0), .val (.int p1), .val (.int p2), .val (.int p3), .val (.int p4), .val (.int nv), .val (.int mv), .val (.int (1 : Int32)), .val (.int sv), .unset, .unset, .unset, .unset, .unset, .unset]) rfl ?_
    refine XS.iloadN X0.here hx rfl (hb hby at_37) rfl ?_
    refine XS.iconst X0.here hx rfl (hb hby at_38) ?_
    show Steps p.tables e below (s₁.setTop (mkF m 39 #[.val (.int p0), .val (.int p1), .val (.int p2), .val (.int p3), .val (.int p4), .val (.int nv), .val (.int mv), .val (.int (1 : Int32)), .val (.int sv), .unset, .unset, .unset, .unset, .unset, .unset] [(.int (4 : Int32)), (.int p2)])) _
    refine XS.iand X0.here hx rfl (hb hby at_39) rfl ?_
    show Steps p.tables e below (s₁.setTop (mkF m 40 #[.val (.int p0), .val (.int p1), .val (.int p2), .val (.int p3), .val (.int p4), .val (.int nv), .val (.int mv), .val (.int (1 : Int32)), .val (.int sv), .unset, .unset, .unset, .unset, .unset, .unset] [(.int (p2 &&& (4 : Int32)))])) _
    refine jn2 _ ?_
    show Steps p.tables e below (s₁.setTop (mkF m 50 #[.val (.int p0), .val (.int p1), .val (.int p2), .val (.int p3), .val (.int p4), .val (.int nv), .val (.int mv), .val (.int (1 : Int32)), .val (.int sv), .unset, .unset, .unset, .unset, .unset, .unset] [(.int tv)])) _
    refine XS.istore X0.here hx rfl (hb hby at_50) rfl (l' := #[.val (.int p0), .val (.int p1), .val (.int p2), .val (.int p3), .val (.int p4), .val (.int nv), .val (.int mv), .val (.int (1 : Int32)), .val (.int sv), .val (.int tv), .unset, .unset, .unset, .unset, .unset]) rfl ?_
    refine XS.iload X0.here hx rfl (hb hby at_52) rfl ?_
    refine st3 _ ?_
    show Steps p.tables e below (T3.setTop (mkF m 56 #[.val (.int p0), .val (.int p1), .val (.int p2), .val (.int p3), .val (.int p4), .val (.int nv), .val (.int mv), .val (.int (1 : Int32)), .val (.int sv), .val (.int tv), .unset, .unset, .unset, .unset, .unset] [(.ref b3)])) _
    refine XS.astore X3.here hx rfl (hb hby at_56) rfl rfl (l' := #[.val (.int p0), .val (.int p1), .val (.int p2), .val (.int p3), .val (.int p4), .val (.int nv), .val (.int mv), .val (.int (1 : Int32)), .val (.int sv), .val (.int tv), .val (.ref b3), .unset, .unset, .unset, .unset]) rfl ?_
    refine XS.iload X3.here hx rfl (hb hby at_58) rfl ?_
    show Steps p.tables e below (T3.setTop (mkF m 60 #[.val (.int p0), .val (.int p1), .val (.int p2), .val (.int p3), .val (.int p4), .val (.int nv), .val (.int mv), .val (.int (1 : Int32)), .val (.int sv), .val (.int tv), .val (.ref b3), .unset, .unset, .unset, .unset] [(.int (1 : Int32))])) _
    refine XS.ifNo X3.here hx rfl (hb hby at_60) rfl ((if0 _ _).trans (feq (by decide : ¬ ((1 : Int32) = (0 : Int32)))).1) ?_
    refine XS.iload X3.here hx rfl (hb hby at_63) rfl ?_
    refine st4 _ ?_
    show Steps p.tables e below (T4.setTop (mkF m 67 #[.val (.int p0), .val (.int p1), .val (.int p2), .val (.int p3), .val (.int p4), .val (.int nv), .val (.int mv), .val (.int (1 : Int32)), .val (.int sv), .val (.int tv), .val (.ref b3), .unset, .unset, .unset, .unset] [(.ref b4)])) _
    refine XS.goto X4.here hx rfl (pc0 := 67) (pc' := 71) rfl (hb hby at_67) (by decide) (by decide) ?_
    refine XS.astore X4.here hx rfl (hb hby at_71) rfl rfl (l' := #[.val (.int p0), .val (.int p1), .val (.int p2), .val (.int p3), .val (.int p4), .val (.int nv), .val (.int mv), .val (.int (1 : Int32)), .val (.int sv), .val (.int tv), .val (.ref b3), .val (.ref b4), .unset, .unset, .unset]) rfl ?_
    refine st7 _ ?_
    show Steps p.tables e below (T7.setTop (mkF m 76 #[.val (.int p0), .val (.int p1), .val (.int p2), .val (.int p3), .val (.int p4), .val (.int nv), .val (.int mv), .val (.int (1 : Int32)), .val (.int sv), .val (.int tv), .val (.ref b3), .val (.ref b4), .unset, .unset, .unset] [(.ref b7)])) _
    refine XS.dup X7.here hx rfl (hb hby at_76) rfl rfl ?_
    refine XS.aload X7.here hx rfl (hb hby at_77) rfl rfl ?_
    refine XS.aload X7.here hx rfl (hb hby at_79) rfl rfl ?_
    refine st11.trans ?_
    show Steps p.tables e below (T11.setTop (mkF m 84 #[.val (.int p0), .val (.int p1), .val (.int p2), .val (.int p3), .val (.int p4), .val (.int nv), .val (.int mv), .val (.int (1 : Int32)), .val (.int sv), .val (.int tv), .val (.ref b3), .val (.ref b4), .unset, .unset, .unset] [(.ref b7)])) _
    refine XS.astore X11.here hx rfl (hb hby at_84) rfl rfl (l' := #[.val (.int p0), .val (.int p1), .val (.int p2), .val (.int p3), .val (.int p4), .val (.int nv), .val (.int mv), .val (.int (1 : Int32)), .val (.int sv), .val (.int tv), .val (.ref b3), .val (.ref b4), .val (.ref b7), .unset, .unset]) rfl ?_
    refine XS.aload X11.here hx rfl (hb hby at_86) rfl rfl ?_
    show Steps p.tables e below (T11.setTop (mkF m 88 #[.val (.int p0), .val (.int p1), .val (.int p2), .val (.int p3), .val (.int p4), .val (.int nv), .val (.int mv), .val (.int (1 : Int32)), .val (.int sv), .val (.int tv), .val (.ref b3), .val (.ref b4), .val (.ref b7), .unset, .unset] [(.ref b7)])) _
    refine XS.iload X11.here hx rfl (hb hby at_88) rfl ?_
    refine XS.iload X11.here hx rfl (hb hby at_90) rfl ?_
    refine st19.trans ?_
    show Steps p.tables e below (T19.setTop (mkF m 95 #[.val (.int p0), .val (.int p1), .val (.int p2), .val (.int p3), .val (.int p4), .val (.int nv), .val (.int mv), .val (.int (1 : Int32)), .val (.int sv), .val (.int tv), .val (.ref b3), .val (.ref b4), .val (.ref b7), .unset, .unset] [(.int (0 : Int32))])) _
    refine XS.istore X19.here hx rfl (hb hby at_95) rfl (l' := #[.val (.int p0), .val (.int p1), .val (.int p2), .val (.int p3), .val (.int p4), .val (.int nv), .val (.int mv), .val (.int (1 : Int32)), .val (.int sv), .val (.int tv), .val (.ref b3), .val (.ref b4), .val (.ref b7), .val (.int (0 : Int32)), .unset]) rfl ?_
    refine XS.iload X19.here hx rfl (hb hby at_97) rfl ?_
    refine XS.iload X19.here hx rfl (hb hby at_99) rfl ?_
    show Steps p.tables e below (T19.setTop (mkF m 101 #[.val (.int p0), .val (.int p1), .val (.int p2), .val (.int p3), .val (.int p4), .val (.int nv), .val (.int mv), .val (.int (1 : Int32)), .val (.int sv), .val (.int tv), .val (.ref b3), .val (.ref b4), .val (.ref b7), .val (.int (0 : Int32)), .unset] [(.int nv), (.int sv)])) _
    refine XS.icmpNo X19.here hx rfl (hb hby at_101) rfl (feq hc101).1 ?_
    refine XS.iconst X19.here hx rfl (hb hby at_104) ?_
    refine XS.istore X19.here hx rfl (hb hby at_105) rfl (l' := #[.val (.int p0), .val (.int p1), .val (.int p2), .val (.int p3), .val (.int p4), .val (.int nv), .val (.int mv), .val (.int (1 : Int32)), .val (.int sv), .val (.int tv), .val (.ref b3), .val (.ref b4), .val (.ref b7), .val (.int (0 : Int32)), .val (.int (0 : Int32))]) rfl ?_
    refine XS.goto X19.here hx rfl (pc0 := 107) (pc' := 135) rfl (hb hby at_107) (by decide) (by decide) ?_
    refine XS.iload X19.here hx rfl (hb hby at_135) rfl ?_
    refine XS.iload X19.here hx rfl (hb hby at_137) rfl ?_
    show Steps p.tables e below (T19.setTop (mkF m 139 #[.val (.int p0), .val (.int p1), .val (.int p2), .val (.int p3), .val (.int p4), .val (.int nv), .val (.int mv), .val (.int (1 : Int32)), .val (.int sv), .val (.int tv), .val (.ref b3), .val (.ref b4), .val (.ref b7), .val (.int (0 : Int32)), .val (.int (0 : Int32))] [(.int (0 : Int32)), (.int (0 : Int32))])) _
    refine XS.icmpNo X19.here hx rfl (hb hby at_139) rfl (teq (by decide : (0 : Int32) = (0 : Int32))).2 ?_
    refine XS.iconst X19.here hx rfl (hb hby at_142) ?_
    refine XS.goto X19.here hx rfl (pc0 := 143) (pc' := 147) rfl (hb hby at_143) (by decide) (by decide) ?_
    exact retN X19 hx (t := .boolean) Bd.returns (by simp) (hb hby at_147) hr
  · show Q0 n0 _ T19.heap _
    rw [e19]
    exact ⟨rfl, N19⟩
set_option maxRecDepth 65536 in
set_option maxHeartbeats 40000000 in
theorem rm0Yb (l : Launch) (Z : State) (a0 : Array Value) (hw : ∀ d ∈ tables_1, d.before a0 Z = true) (ws : List Jvm.Cond) (p0 : Int32) (p1 : Int32) (p2 : Int32) (p3 : Int32) (p4 : Int32) (nv : Int32) (mv : Int32) (sv : Int32) (tv : Int32) (h0 : Heap) (n0 : Nat) (Z0 : n0 ≤ h0.size) (hn1 : ¬ nv < 0) (hn2 : nv.toNatClampNeg ≤ 3) (hm1 : ¬ mv < 0) (hm2 : mv.toNatClampNeg ≤ 3) (hv2 : (p0 &&& (3 : Int32)) = nv) (hv7 : (p1 &&& (3 : Int32)) = mv) (hc13 : ¬ ((p2 &&& (1 : Int32)) = (0 : Int32))) (hj_sv : (if (p2 &&& (2 : Int32)) = (0 : Int32) then p3 else nv) = sv) (hj_tv : (if (p2 &&& (4 : Int32)) = (0 : Int32) then p4 else mv) = tv) (hcase_81 : ((¬ ((0 : Int32) < nv)) ∧ (¬ ((0 : Int32) < mv))) ∨ ((¬ ((0 : Int32) < nv)) ∧ ((0 : Int32) < mv) ∧ (¬ (0 : Int32) < 0 ∧ (0 : Int32) < mv) ∧ (¬ ((1 : Int32) < mv))) ∨ ((¬ ((0 : Int32) < nv)) ∧ ((0 : Int32) < mv) ∧ (¬ (0 : Int32) < 0 ∧ (0 : Int32) < mv) ∧ ((1 : Int32) < mv) ∧ (¬ (1 : Int32) < 0 ∧ (1 : Int32) < mv) ∧ (¬ ((2 : Int32) < mv))) ∨ ((¬ ((0 : Int32) < nv)) ∧ ((0 : Int32) < mv) ∧ (¬ (0 : Int32) < 0 ∧ (0 : Int32) < mv) ∧ ((1 : Int32) < mv) ∧ (¬ (1 : Int32) < 0 ∧ (1 : Int32) < mv) ∧ ((2 : Int32) < mv) ∧ (¬ (2 : Int32) < 0 ∧ (2 : Int32) < mv) ∧ (¬ ((3 : Int32) < mv))) ∨ (((0 : Int32) < nv) ∧ (¬ (0 : Int32) < 0 ∧ (0 : Int32) < nv) ∧ (¬ ((1 : Int32) < nv)) ∧ (¬ ((0 : Int32) < mv))) ∨ (((0 : Int32) < nv) ∧ (¬ (0 : Int32) < 0 ∧ (0 : Int32) < nv) ∧ (¬ ((1 : Int32) < nv)) ∧ ((0 : Int32) < mv) ∧ (¬ (0 : Int32) < 0 ∧ (0 : Int32) < mv) ∧ (¬ ((1 : Int32) < mv))) ∨ (((0 : Int32) < nv) ∧ (¬ (0 : Int32) < 0 ∧ (0 : Int32) < nv) ∧ (¬ ((1 : Int32) < nv)) ∧ ((0 : Int32) < mv) ∧ (¬ (0 : Int32) < 0 ∧ (0 : Int32) < mv) ∧ ((1 : Int32) < mv) ∧ (¬ (1 : Int32) < 0 ∧ (1 : Int32) < mv) ∧ (¬ ((2 : Int32) < mv))) ∨ (((0 : Int32) < nv) ∧ (¬ (0 : Int32) < 0 ∧ (0 : Int32) < nv) ∧ (¬ ((1 : Int32) < nv)) ∧ ((0 : Int32) < mv) ∧ (¬ (0 : Int32) < 0 ∧ (0 : Int32) < mv) ∧ ((1 : Int32) < mv) ∧ (¬ (1 : Int32) < 0 ∧ (1 : Int32) < mv) ∧ ((2 : Int32) < mv) ∧ (¬ (2 : Int32) < 0 ∧ (2 : Int32) < mv) ∧ (¬ ((3 : Int32) < mv))) ∨ (((0 : Int32) < nv) ∧ (¬ (0 : Int32) < 0 ∧ (0 : Int32) < nv) ∧ ((1 : Int32) < nv) ∧ (¬ (1 : Int32) < 0 ∧ (1 : Int32) < nv) ∧ (¬ ((2 : Int32) < nv)) ∧ (¬ ((0 : Int32) < mv))) ∨ (((0 : Int32) < nv) ∧ (¬ (0 : Int32) < 0 ∧ (0 : Int32) < nv) ∧ ((1 : Int32) < nv) ∧ (¬ (1 : Int32) < 0 ∧ (1 : Int32) < nv) ∧ (¬ ((2 : Int32) < nv)) ∧ ((0 : Int32) < mv) ∧ (¬ (0 : Int32) < 0 ∧ (0 : Int32) < mv) ∧ (¬ ((1 : Int32) < mv))) ∨ (((0 : Int32) < nv) ∧ (¬ (0 : Int32) < 0 ∧ (0 : Int32) < nv) ∧ ((1 : Int32) < nv) ∧ (¬ (1 : Int32) < 0 ∧ (1 : Int32) < nv) ∧ (¬ ((2 : Int32) < nv)) ∧ ((0 : Int32) < mv) ∧ (¬ (0 : Int32) < 0 ∧ (0 : Int32) < mv) ∧ ((1 : Int32) < mv) ∧ (¬ (1 : Int32) < 0 ∧ (1 : Int32) < mv) ∧ (¬ ((2 : Int32) < mv))) ∨ (((0 : Int32) < nv) ∧ (¬ (0 : Int32) < 0 ∧ (0 : Int32) < nv) ∧ ((1 : Int32) < nv) ∧ (¬ (1 : Int32) < 0 ∧ (1 : Int32) < nv) ∧ (¬ ((2 : Int32) < nv)) ∧ ((0 : Int32) < mv) ∧ (¬ (0 : Int32) < 0 ∧ (0 : Int32) < mv) ∧ ((1 : Int32) < mv) ∧ (¬ (1 : Int32) < 0 ∧ (1 : Int32) < mv) ∧ ((2 : Int32) < mv) ∧ (¬ (2 : Int32) < 0 ∧ (2 : Int32) < mv) ∧ (¬ ((3 : Int32) < mv))) ∨ (((0 : Int32) < nv) ∧ (¬ (0 : Int32) < 0 ∧ (0 : Int32) < nv) ∧ ((1 : Int32) < nv) ∧ (¬ (1 : Int32) < 0 ∧ (1 : Int32) < nv) ∧ ((2 : Int32) < nv) ∧ (¬ (2 : Int32) < 0 ∧ (2 : Int32) < nv) ∧ (¬ ((3 : Int32) < nv)) ∧ (¬ ((0 : Int32) < mv))) ∨ (((0 : Int32) < nv) ∧ (¬ (0 : Int32) < 0 ∧ (0 : Int32) < nv) ∧ ((1 : Int32) < nv) ∧ (¬ (1 : Int32) < 0 ∧ (1 : Int32) < nv) ∧ ((2 : Int32) < nv) ∧ (¬ (2 : Int32) < 0 ∧ (2 : Int32) < nv) ∧ (¬ ((3 : Int32) < nv)) ∧ ((0 : Int32) < mv) ∧ (¬ (0 : Int32) < 0 ∧ (0 : Int32) < mv) ∧ (¬ ((1 : Int32) < mv))) ∨ (((0 : Int32) < nv) ∧ (¬ (0 : Int32) < 0 ∧ (0 : Int32) < nv) ∧ ((1 : Int32) < nv) ∧ (¬ (1 : Int32) < 0 ∧ (1 : Int32) < nv) ∧ ((2 : Int32) < nv) ∧ (¬ (2 : Int32) < 0 ∧ (2 : Int32) < nv) ∧ (¬ ((3 : Int32) < nv)) ∧ ((0 : Int32) < mv) ∧ (¬ (0 : Int32) < 0 ∧ (0 : Int32) < mv) ∧ ((1 : Int32) < mv) ∧ (¬ (1 : Int32) < 0 ∧ (1 : Int32) < mv) ∧ (¬ ((2 : Int32) < mv))) ∨ (((0 : Int32) < nv) ∧ (¬ (0 : Int32) < 0 ∧ (0 : Int32) < nv) ∧ ((1 : Int32) < nv) ∧ (¬ (1 : Int32) < 0 ∧ (1 : Int32) < nv) ∧ ((2 : Int32) < nv) ∧ (¬ (2 : Int32) < 0 ∧ (2 : Int32) < nv) ∧ (¬ ((3 : Int32) < nv)) ∧ ((0 : Int32) < mv) ∧ (¬ (0 : Int32) < 0 ∧ (0 : Int32) < mv) ∧ ((1 : Int32) < mv) ∧ (¬ (1 : Int32) < 0 ∧ (1 : Int32) < mv) ∧ ((2 : Int32) < mv) ∧ (¬ (2 : Int32) < 0 ∧ (2 : Int32) < mv) ∧ (¬ ((3 : Int32) < mv)))) (hc6_92 : nv = sv) (hc22_92 : mv = tv) (hc101 : sv = nv) (hc125 : tv = mv) :
    MetFree l x (head1 (Jvm.Cond.code x code maxLocals ret :: ws) room_1) (fun a U => a = #[(.int p0), (.int p1), (.int p2), (.int p3), (.int p4)] ∧ Z.Warmed39 U.vm ∧ U.heap = h0) (fun _ _ _ _ _ => True) (fun _ U o U' => ∃ v L, o = .returned v ∧ Q0 n0 v U'.heap L ∧ ReturnedEndW U o U' L room_1.cells room_1.slots) := by
  refine MetFree.of_bodySF (plainFor_of_name pn_com_example_hedge_hedge_RewardStructureFitsPinLaw) hisR ?_
  intro p e s m args below meth c s₁ Bd hml0 hP hK
  obtain ⟨rfl, hZ, hh⟩ := hP
  have hx := Bd.exec
  have hby := Bd.bytes
  have hml : c.maxLocals = 15 := hml0
  have hown : s.vm.findClass "com/example/hedge/hedge/RewardStructureFitsPinLaw" = some m.cls := findClass_of_methodNamed Bd.named
  have hnm := (name_of_methodNamed Bd.named Bd.method).1
  have X0 : Stand p l e room_1 s m #[(.int p0), (.int p1), (.int p2), (.int p3), (.int p4)] below meth c s₁ [] 0 0 := Stand.of_body Bd
  have e0 : s₁.heap = h0 := by rw [← hh, Bd.state]; rfl
  have N0 := Fr.nil n0
  have pre0 : ∀ t, Steps p.tables e below (s₁.setTop (mkF m 0 #[.val (.int p0), .val (.int p1), .val (.int p2), .val (.int p3), .val (.int p4), .unset, .unset, .unset, .unset, .unset, .unset, .unset, .unset, .unset, .unset] [])) t → Steps p.tables e below (s₁.setTop (entryFrame m #[(.int p0), (.int p1), (.int p2), (.int p3), (.int p4)] maxLocals)) t := fun t k => castTop (ef_0_IIIII m p0 p1 p2 p3 p4) k
  obtain ⟨vm0, k00, X0, hS0, hk0, hZ0, hown0⟩ := own_W0 X0 e0 hZ hown
  have jn1 : ∀ target, Steps p.tables e below (s₁.setTop (mkF m 35 #[.val (.int p0), .val (.int p1), .val (.int p2), .val (.int p3), .val (.int p4), .val (.int nv), .val (.int mv), .val (.int (1 : Int32)), .unset, .unset, .unset, .unset, .unset, .unset, .unset] [(.int sv)])) target → Steps p.tables e below (s₁.setTop (mkF m 26 #[.val (.int p0), .val (.int p1), .val (.int p2), .val (.int p3), .val (.int p4), .val (.int nv), .val (.int mv), .val (.int (1 : Int32)), .unset, .unset, .unset, .unset, .unset, .unset, .unset] [(.int (p2 &&& (2 : Int32)))])) target := by
    intro target kt
    by_cases hq : (p2 &&& (2 : Int32)) = (0 : Int32)
    · rw [if_pos hq] at hj_sv; subst hj_sv
      show Steps p.tables e below (s₁.setTop (mkF m 26 #[.val (.int p0), .val (.int p1), .val (.int p2), .val (.int p3), .val (.int p4), .val (.int nv), .val (.int mv), .val (.int (1 : Int32)), .unset, .unset, .unset, .unset, .unset, .unset, .unset] [(.int (p2 &&& (2 : Int32)))])) _
      refine XS.ifYes X0.here hx rfl (pc0 := 26) (pc' := 34) rfl (hb hby at_26) rfl ((if0 _ _).trans (teq hq).1) (by decide) (by decide) ?_
      refine XS.iloadN X0.here hx rfl (hb hby at_34) rfl ?_
      show Steps p.tables e below (s₁.setTop (mkF m 35 #[.val (.int p0), .val (.int p1), .val (.int p2), .val (.int p3), .val (.int p4), .val (.int nv), .val (.int mv), .val (.int (1 : Int32)), .unset, .unset, .unset, .unset, .unset, .unset, .unset] [(.int p3)])) _
      exact kt
    · rw [if_neg hq] at hj_sv; subst hj_sv
      show Steps p.tables e below (s₁.setTop (mkF m 26 #[.val (.int p0), .val (.int p1), .val (.int p2), .val (.int p3), .val (.int p4), .val (.int nv), .val (.int mv), .val (.int (1 : Int32)), .unset, .unset, .unset, .unset, .unset, .unset, .unset] [(.int (p2 &&& (2 : Int32)))])) _
      refine XS.ifNo X0.here hx rfl (hb hby at_26) rfl ((if0 _ _).trans (feq hq).1) ?_
      show Steps p.tables e below (s₁.setTop (mkF m 29 #[.val (.int p0), .val (.int p1), .val (.int p2), .val (.int p3), .val (.int p4), .val (.int nv), .val (.int mv), .val (.int (1 : Int32)), .unset, .unset, .unset, .unset, .unset, .unset, .unset] [])) _
      refine XS.iload X0.here hx rfl (hb hby at_29) rfl ?_
      refine XS.goto X0.here hx rfl (pc0 := 31) (pc' := 35) rfl (hb hby at_31) (by decide) (by decide) ?_
      show Steps p.tables e below (s₁.setTop (mkF m 35 #[.val (.int p0), .val (.int p1), .val (.int p2), .val (.int p3), .val (.int p4), .val (.int nv), .val (.int mv), .val (.int (1 : Int32)), .unset, .unset, .unset, .unset, .unset, .unset, .unset] [(.int nv)])) _
      exact kt
  have jn2 : ∀ target, Steps p.tables e below (s₁.setTop (mkF m 50 #[.val (.int p0), .val (.int p1), .val (.int p2), .val (.int p3), .val (.int p4), .val (.int nv), .val (.int mv), .val (.int (1 : Int32)), .val (.int sv), .unset, .unset, .unset, .unset, .unset, .unset] [(.int tv)])) target → Steps p.tables e below (s₁.setTop (mkF m 40 #[.val (.int p0), .val (.int p1), .val (.int p2), .val (.int p3), .val (.int p4), .val (.int nv), .val (.int mv), .val (.int (1 : Int32)), .val (.int sv), .unset, .unset, .unset, .unset, .unset, .unset] [(.int (p2 &&& (4 : Int32)))])) target := by
    intro target kt
    by_cases hq : (p2 &&& (4 : Int32)) = (0 : Int32)
    · rw [if_pos hq] at hj_tv; subst hj_tv
      show Steps p.tables e below (s₁.setTop (mkF m 40 #[.val (.int p0), .val (.int p1), .val (.int p2), .val (.int p3), .val (.int p4), .val (.int nv), .val (.int mv), .val (.int (1 : Int32)), .val (.int sv), .unset, .unset, .unset, .unset, .unset, .unset] [(.int (p2 &&& (4 : Int32)))])) _
      refine XS.ifYes X0.here hx rfl (pc0 := 40) (pc' := 48) rfl (hb hby at_40) rfl ((if0 _ _).trans (teq hq).1) (by decide) (by decide) ?_
      refine XS.iload X0.here hx rfl (hb hby at_48) rfl ?_
      show Steps p.tables e below (s₁.setTop (mkF m 50 #[.val (.int p0), .val (.int p1), .val (.int p2), .val (.int p3), .val (.int p4), .val (.int nv), .val (.int mv), .val (.int (1 : Int32)), .val (.int sv), .unset, .unset, .unset, .unset, .unset, .unset] [(.int p4)])) _
      exact kt
    · rw [if_neg hq] at hj_tv; subst hj_tv
      show Steps p.tables e below (s₁.setTop (mkF m 40 #[.val (.int p0), .val (.int p1), .val (.int p2), .val (.int p3), .val (.int p4), .val (.int nv), .val (.int mv), .val (.int (1 : Int32)), .val (.int sv), .unset, .unset, .unset, .unset, .unset, .unset] [(.int (p2 &&& (4 : Int32)))])) _
      refine XS.ifNo X0.here hx rfl (hb hby at_40) rfl ((if0 _ _).trans (feq hq).1) ?_
      refine XS.iload X0.here hx rfl (hb hby at_43) rfl ?_
      refine XS.goto X0.here hx rfl (pc0 := 45) (pc' := 50) rfl (hb hby at_45) (by decide) (by decide) ?_
      show Steps p.tables e below (s₁.setTop (mkF m 50 #[.val (.int p0), .val (.int p1), .val (.int p2), .val (.int p3), .val (.int p4), .val (.int nv), .val (.int mv), .val (.int (1 : Int32)), .val (.int sv), .unset, .unset, .unset, .unset, .unset, .unset] [(.int mv)])) _
      exact kt
  obtain ⟨T3, h3, k3, X3, e3, E3, A3, B3, st3⟩ := newPE X0 hx hZ0 (hw _ (List.mem_of_getElem? (i := 0) rfl)) e0 (g := (mkF m 54 #[.val (.int p0), .val (.int p1), .val (.int p2), .val (.int p3), .val (.int p4), .val (.int nv), .val (.int mv), .val (.int (1 : Int32)), .val (.int sv), .val (.int tv), .unset, .unset, .unset, .unset, .unset] [(.int nv)])) rfl (hb hby at_54) rfl hn1 (cap := 3) hn2 (by decide) (by decide) (by decide) (ad := "[D") rfl
  obtain ⟨b3, g3⟩ : ∃ z, z = h0.size := ⟨_, rfl⟩
  rw [← g3] at A3 st3 B3
  have g_b3 : n0 ≤ b3 := Nat.le_trans Z0 (Nat.le_of_eq g3.symm)
  have sz_b3 : h0.size ≤ b3 := Nat.le_trans (Keep.refl h0 []).1 (Nat.le_of_eq g3.symm)
  have K3 : Keep h0 h3 [] := (Keep.refl h0 []).ext E3
  have Zs3 := Nat.le_trans Z0 E3.1
  have hk3 := Nat.le_trans hk0 E3.1
  have V3 : Arv Z h3 b3 k3 .double nv [] (.double (0 : UInt64)) := Arv.new A3 hn1
  obtain ⟨T4, h4, k4, X4, e4, E4, A4, st4⟩ := newP X3 hx hZ0 (hw _ (List.mem_of_getElem? (i := 0) rfl)) e3 (g := (mkF m 65 #[.val (.int p0), .val (.int p1), .val (.int p2), .val (.int p3), .val (.int p4), .val (.int nv), .val (.int mv), .val (.int (1 : Int32)), .val (.int sv), .val (.int tv), .val (.ref b3), .unset, .unset, .unset, .unset] [(.int mv)])) rfl (hb hby at_65) rfl hm1 (cap := 3) hm2 (by decide) (by decide) (by decide)
  obtain ⟨b4, g4⟩ : ∃ z, z = h3.size := ⟨_, rfl⟩
  rw [← g4] at A4 st4
  have ne_b3_b4 : b3 ≠ b4 := Nat.ne_of_lt (Nat.lt_of_lt_of_le V3.lt (Nat.le_of_eq g4.symm))
  have g_b4 : n0 ≤ b4 := Nat.le_trans Zs3 (Nat.le_of_eq g4.symm)
  have sz_b4 : h0.size ≤ b4 := Nat.le_trans K3.1 (Nat.le_of_eq g4.symm)
  have f5 := V3.ext E4
  have f6 := B3.ext E4
  have K4 : Keep h0 h4 [] := K3.ext E4
  have Zs4 := Nat.le_trans Zs3 E4.1
  have hk4 := Nat.le_trans hk3 E4.1
  have V4 : Arv Z h4 b4 k4 .double mv [] (.double (0 : UInt64)) := Arv.new A4 hm1
  obtain ⟨T7, h7, X7, e7, E7, A7, D7, -, st7⟩ := newO X4 hx hZ0 hown0 (hw _ (List.mem_of_getElem? (i := 1) rfl)) (hw _ (List.mem_of_getElem? (i := 2) rfl)) (hw _ (List.mem_of_getElem? (i := 3) rfl)) e4 (g := (mkF m 73 #[.val (.int p0), .val (.int p1), .val (.int p2), .val (.int p3), .val (.int p4), .val (.int nv), .val (.int mv), .val (.int (1 : Int32)), .val (.int sv), .val (.int tv), .val (.ref b3), .val (.ref b4), .unset, .unset, .unset] [])) rfl (hb hby at_73) (by decide) (by decide)
  obtain ⟨b7, g7⟩ : ∃ z, z = h4.size := ⟨_, rfl⟩
  rw [← g7] at A7 D7 st7
  have ne_b3_b7 : b3 ≠ b7 := Nat.ne_of_lt (Nat.lt_of_lt_of_le f5.lt (Nat.le_of_eq g7.symm))
  have ne_b4_b7 : b4 ≠ b7 := Nat.ne_of_lt (Nat.lt_of_lt_of_le V4.lt (Nat.le_of_eq g7.symm))
  have g_b7 : n0 ≤ b7 := Nat.le_trans Zs4 (Nat.le_of_eq g7.symm)
  have sz_b7 : h0.size ≤ b7 := Nat.le_trans K4.1 (Nat.le_of_eq g7.symm)
  have f8 := f5.ext E7
  have f9 := f6.ext E7
  have f10 := V4.ext E7
  have K7 : Keep h0 h7 [] := K4.ext E7
  have Zs7 := Nat.le_trans Zs4 E7.1
  have hk7 := Nat.le_trans hk4 E7.1
  have F7_state : Fld Z h7 b7 "com/example/hedge/hedge/RewardStructure" "state" "[D" .null := D7 (Or.inr (hw _ (List.mem_of_getElem? (i := 25) rfl))) (ty := (.array .double)) (by decide)
  have F7_transition : Fld Z h7 b7 "com/example/hedge/hedge/RewardStructure" "transition" "[D" .null := D7 (Or.inr (hw _ (List.mem_of_getElem? (i := 27) rfl))) (ty := (.array .double)) (by decide)
  obtain ⟨_, _, ⟨T11, L11, k11, n11⟩, -, X11, hs11, gr11, ⟨Lc11, hQ11, lq11, yq11, zq11⟩, st11⟩ := X7.specialBackS hx (y := (⟨"com/example/hedge/hedge/RewardStructure", "<init>", "([D[D)V"⟩ : MethodName)) rfl hown0 (mvT hZ0 (hw _ (List.mem_of_getElem? (i := 4) rfl))) (mvT hZ0 (hw _ (List.mem_of_getElem? (i := 5) rfl))) (mvT hZ0 (hw _ (List.mem_of_getElem? (i := 6) rfl))) (by decide) (backOfS (W := 1) (iniY l Z a0 hw [] b7 b3 b4 nv k3 mv k4 h7 n0 Zs7 A7 g_b7 F7_state F7_transition f9 f8 f10 (Ne.symm ne_b3_b7) (Ne.symm ne_b4_b7) hcase_81) hZ0 (hw _ (List.mem_of_getElem? (i := 6) rfl)) (hw _ (List.mem_of_getElem? (i := 3) rfl)) (by decide) (by decide)) (g := (mkF m 81 #[.val (.int p0), .val (.int p1), .val (.int p2), .val (.int p3), .val (.int p4), .val (.int nv), .val (.int mv), .val (.int (1 : Int32)), .val (.int sv), .val (.int tv), .val (.ref b3), .val (.ref b4), .unset, .unset, .unset] [(.ref b4), (.ref b3), (.ref b7), (.ref b7)])) rfl (by rw [hml]; rfl) (Steps.refl _) (a := b7) (argsL := [(.ref b3), (.ref b4)]) (rest := [(.ref b7)]) (lenOf pd_2 rfl) rfl (by show 2 * 0 + _ ≤ _; exact Nat.le_of_eq rfl) (hb hby at_81) (fun _ _ => ⟨rfl, e7, (by decide : 3 + 2 ≤ _), (by decide : 8 + 24 ≤ _)⟩)
  dsimp only [Pt.U, Pt.locs, Pt.cells, Pt.slots] at X11 lq11 yq11 zq11 st11 hQ11 hs11 gr11
  rw [lq11, yq11, zq11] at X11
  obtain ⟨X11, hS11, hZ11, hown11⟩ := own_fold X11 hS0 hs11 (Nat.le_trans (by rw [e7]; exact hk7) gr11) hZ0 hown0
  obtain ⟨rfl, N11q, K11q, f12, f13, f14⟩ := hQ11
  have N11 := Fr.app N0 N11q
  have f15 := f8.keep K11q (own_niS ne_b3_b7 own_ni0)
  have f16 := f9.keep K11q
  have f17 := f10.keep K11q (own_niS ne_b4_b7 own_ni0)
  have f18 := A7.keep K11q
  have K11 : Keep h0 T11.heap [] := K7.trans K11q (own_allS (Or.inr sz_b7) own_all0)
  have Zs11 := Nat.le_trans Zs7 K11q.1
  have hk11 := Nat.le_trans hk7 K11q.1
  have hkq11 : T11.heap.size ≤ T11.heap.size := Nat.le_refl _
  obtain ⟨cq19, kq19, q19a, q19b, q19c⟩ := isOf hZ11 rfl f12
  obtain ⟨_, _, ⟨T19, L19, k19, n19⟩, -, X19, ⟨Lc19, hQ19, lq19, yq19, zq19⟩, st19⟩ := X11.virtualBack hx (y := (⟨"com/example/hedge/hedge/RewardStructure", "fits", "(II)Z"⟩ : MethodName)) (z := (⟨"com/example/hedge/hedge/RewardStructure", "fits", "(II)Z"⟩ : MethodName)) hown11 (mvT hZ11 (hw _ (List.mem_of_getElem? (i := 28) rfl))) (mvT hZ11 (hw _ (List.mem_of_getElem? (i := 29) rfl))) (notFace_of_selects (args := #[]) (mvT hZ11 (hw _ (List.mem_of_getElem? (i := 31) rfl)))) (mvT hZ11 (hw _ (List.mem_of_getElem? (i := 31) rfl))) (mvT hZ11 (hw _ (List.mem_of_getElem? (i := 30) rfl))) (by decide) (backOf (W := 0) (fYb l Z a0 hw [] b7 sv tv b3 b4 nv k3 mv k4 T11.heap n0 Zs11 f13 f14 f15 f17 hc6_92 hc22_92) hZ11 (hw _ (List.mem_of_getElem? (i := 32) rfl)) (hw _ (List.mem_of_getElem? (i := 3) rfl)) (by decide) (by decide)) q19a q19c (g := (mkF m 92 #[.val (.int p0), .val (.int p1), .val (.int p2), .val (.int p3), .val (.int p4), .val (.int nv), .val (.int mv), .val (.int (1 : Int32)), .val (.int sv), .val (.int tv), .val (.ref b3), .val (.ref b4), .val (.ref b7), .unset, .unset] [(.int tv), (.int sv), (.ref b7)])) rfl (by rw [hml]; rfl) (Steps.refl _) (argsL := [(.int sv), (.int tv)]) (rest := []) (lenOf pd_3 rfl) rfl (by show 2 * 0 + _ ≤ _; exact Nat.le_of_eq rfl) (hb hby at_92) (fun _ _ => ⟨rfl, rfl, (by decide : 5 + 0 ≤ _), (by decide : 32 + 0 ≤ _)⟩)
  dsimp only [Pt.U, Pt.locs, Pt.cells, Pt.slots] at X19 lq19 yq19 zq19 st19 hQ19
  rw [lq19, yq19, zq19] at X19
  obtain ⟨rfl, N19q, eh19⟩ := hQ19
  have N19 := Fr.app N11 N19q
  have e19 : T19.heap = T11.heap := eh19
  obtain ⟨fs, hr, hrun, hended, hRW⟩ := X19.leaveW hS11 (by rw [e19]; exact hkq11) (v := some (.int (1 : Int32))) (fun h => by rw [Bd.returns] at h; cases h)
  refine ⟨_, _, pre0 _ ?_, hrun, hended, _, _, rfl, ?_, ⟨_, rfl⟩, hRW.2.1, hRW.2.2.1, hRW.2.2.2.mono (by decide) (by decide)⟩
  · show Steps p.tables e below (s₁.setTop (mkF m 0 #[.val (.int p0), .val (.int p1), .val (.int p2), .val (.int p3), .val (.int p4), .unset, .unset, .unset, .unset, .unset, .unset, .unset, .unset, .unset, .unset] [])) _
    refine XS.iloadN X0.here hx rfl (hb hby at_0) rfl ?_
    refine XS.iconst X0.here hx rfl (hb hby at_1) ?_
    refine XS.iand X0.here hx rfl (hb hby at_2) rfl ?_
    show Steps p.tables e below (s₁.setTop (mkF m 3 #[.val (.int p0), .val (.int p1), .val (.int p2), .val (.int p3), .val (.int p4), .unset, .unset, .unset, .unset, .unset, .unset, .unset, .unset, .unset, .unset] [(.int (p0 &&& (3 : Int32)))])) _
    rw [hv2]
    show Steps p.tables e below (s₁.setTop (mkF m 3 #[.val (.int p0), .val (.int p1), .val (.int p2), .val (.int p3), .val (.int p4), .unset, .unset, .unset, .unset, .unset, .unset, .unset, .unset, .unset, .unset] [(.int nv)])) _
    refine XS.istore X0.here hx rfl (hb hby at_3) rfl (l' := #[.val (.int p0), .val (.int p1), .val (.int p2), .val (.int p3), .val (.int p4), .val (.int nv), .unset, .unset, .unset, .unset, .unset, .unset, .unset, .unset, .unset]) rfl ?_
    show Steps p.tables e below (s₁.setTop (mkF m 5 #[.val (.int p0), .val (.int p1), .val (.int p2), .val (.int p3), .val (.int p4), .val (.int nv), .unset, .unset, .unset, .unset, .unset, .unset, .unset, .unset, .unset] [])) _
    refine XS.iloadN X0.here hx rfl (hb hby at_5) rfl ?_
    refine XS.iconst X0.here hx rfl (hb hby at_6) ?_
    refine XS.iand X0.here hx rfl (hb hby at_7) rfl ?_
    show Steps p.tables e below (s₁.setTop (mkF m 8 #[.val (.int p0), .val (.int p1), .val (.int p2), .val (.int p3), .val (.int p4), .val (.int nv), .unset, .unset, .unset, .unset, .unset, .unset, .unset, .unset, .unset] [(.int (p1 &&& (3 : Int32)))])) _
    rw [hv7]
    show Steps p.tables e below (s₁.setTop (mkF m 8 #[.val (.int p0), .val (.int p1), .val (.int p2), .val (.int p3), .val (.int p4), .val (.int nv), .unset, .unset, .unset, .unset, .unset, .unset, .unset, .unset, .unset] [(.int mv)])) _
    refine XS.istore X0.here hx rfl (hb hby at_8) rfl (l' := #[.val (.int p0), .val (.int p1), .val (.int p2), .val (.int p3), .val (.int p4), .val (.int nv), .val (.int mv), .unset, .unset, .unset, .unset, .unset, .unset, .unset, .unset]) rfl ?_
    refine XS.iloadN X0.here hx rfl (hb hby at_10) rfl ?_
    show Steps p.tables e below (s₁.setTop (mkF m 11 #[.val (.int p0), .val (.int p1), .val (.int p2), .val (.int p3), .val (.int p4), .val (.int nv), .val (.int mv), .unset, .unset, .unset, .unset, .unset, .unset, .unset, .unset] [(.int p2)])) _
    refine XS.iconst X0.here hx rfl (hb hby at_11) ?_
    refine XS.iand X0.here hx rfl (hb hby at_12) rfl ?_
    refine XS.ifNo X0.here hx rfl (hb hby at_13) rfl ((if0 _ _).trans (feq hc13).1) ?_
    refine XS.iconst X0.here hx rfl (hb hby at_16) ?_
    refine XS.goto X0.here hx rfl (pc0 := 17) (pc' := 21) rfl (hb hby at_17) (by decide) (by decide) ?_
    refine XS.istore X0.here hx rfl (hb hby at_21) rfl (l' := #[.val (.int p0), .val (.int p1), .val (.int p2), .val (.int p3), .val (.int p4), .val (.int nv), .val (.int mv), .val (.int (1 : Int32)), .unset, .unset, .unset, .unset, .unset, .unset, .unset]) rfl ?_
    show Steps p.tables e below (s₁.setTop (mkF m 23 #[.val (.int p0), .val (.int p1), .val (.int p2), .val (.int p3), .val (.int p4), .val (.int nv), .val (.int mv), .val (.int (1 : Int32)), .unset, .unset, .unset, .unset, .unset, .unset, .unset] [])) _
    refine XS.iloadN X0.here hx rfl (hb hby at_23) rfl ?_
    refine XS.iconst X0.here hx rfl (hb hby at_24) ?_
    refine XS.iand X0.here hx rfl (hb hby at_25) rfl ?_
    show Steps p.tables e below (s₁.setTop (mkF m 26 #[.val (.int p0), .val (.int p1), .val (.int p2), .val (.int p3), .val (.int p4), .val (.int nv), .val (.int mv), .val (.int (1 : Int32)), .unset, .unset, .unset, .unset, .unset, .unset, .unset] [(.int (p2 &&& (2 : Int32)))])) _
    refine jn1 _ ?_
    show Steps p.tables e below (s₁.setTop (mkF m 35 #[.val (.int p0), .val (.int p1), .val (.int p2), .val (.int p3), .val (.int p4), .val (.int nv), .val (.int mv), .val (.int (1 : Int32)), .unset, .unset, .unset, .unset, .unset, .unset, .unset] [(.int sv)])) _
    refine XS.istore X0.here hx rfl (hb hby at_35) rfl (l' := #[.val (.int p0), .val (.int p1), .val (.int p2), .val (.int p3), .val (.int p4), .val (.int nv), .val (.int mv), .val (.int (1 : Int32)), .val (.int sv), .unset, .unset, .unset, .unset, .unset, .unset]) rfl ?_
    refine XS.iloadN X0.here hx rfl (hb hby at_37) rfl ?_
    refine XS.iconst X0.here hx rfl (hb hby at_38) ?_
    show Steps p.tables e below (s₁.setTop (mkF m 39 #[.val (.int p0), .val (.int p1), .val (.int p2), .val (.int p3), .val (.int p4), .val (.int nv), .val (.int mv), .val (.int (1 : Int32)), .val (.int sv), .unset, .unset, .unset, .unset, .unset, .unset] [(.int (4 : Int32)), (.int p2)])) _
    refine XS.iand X0.here hx rfl (hb hby at_39) rfl ?_
    show Steps p.tables e below (s₁.setTop (mkF m 40 #[.val (.int p0), .val (.int p1), .val (.int p2), .val (.int p3), .val (.int p4), .val (.int nv), .val (.int mv), .val (.int (1 : Int32)), .val (.int sv), .unset, .unset, .unset, .unset, .unset, .unset] [(.int (p2 &&& (4 : Int32)))])) _
    refine jn2 _ ?_
    show Steps p.tables e below (s₁.setTop (mkF m 50 #[.val (.int p0), .val (.int p1), .val (.int p2), .val (.int p3), .val (.int p4), .val (.int nv), .val (.int mv), .val (.int (1 : Int32)), .val (.int sv), .unset, .unset, .unset, .unset, .unset, .unset] [(.int tv)])) _
    refine XS.istore X0.here hx rfl (hb hby at_50) rfl (l' := #[.val (.int p0), .val (.int p1), .val (.int p2), .val (.int p3), .val (.int p4), .val (.int nv), .val (.int mv), .val (.int (1 : Int32)), .val (.int sv), .val (.int tv), .unset, .unset, .unset, .unset, .unset]) rfl ?_
    refine XS.iload X0.here hx rfl (hb hby at_52) rfl ?_
    refine st3 _ ?_
    show Steps p.tables e below (T3.setTop (mkF m 56 #[.val (.int p0), .val (.int p1), .val (.int p2), .val (.int p3), .val (.int p4), .val (.int nv), .val (.int mv), .val (.int (1 : Int32)), .val (.int sv), .val (.int tv), .unset, .unset, .unset, .unset, .unset] [(.ref b3)])) _
    refine XS.astore X3.here hx rfl (hb hby at_56) rfl rfl (l' := #[.val (.int p0), .val (.int p1), .val (.int p2), .val (.int p3), .val (.int p4), .val (.int nv), .val (.int mv), .val (.int (1 : Int32)), .val (.int sv), .val (.int tv), .val (.ref b3), .unset, .unset, .unset, .unset]) rfl ?_
    refine XS.iload X3.here hx rfl (hb hby at_58) rfl ?_
    show Steps p.tables e below (T3.setTop (mkF m 60 #[.val (.int p0), .val (.int p1), .val (.int p2), .val (.int p3), .val (.int p4), .val (.int nv), .val (.int mv), .val (.int (1 : Int32)), .val (.int sv), .val (.int tv), .val (.ref b3), .unset, .unset, .unset, .unset] [(.int (1 : Int32))])) _
    refine XS.ifNo X3.here hx rfl (hb hby at_60) rfl ((if0 _ _).trans (feq (by decide : ¬ ((1 : Int32) = (0 : Int32)))).1) ?_
    refine XS.iload X3.here hx rfl (hb hby at_63) rfl ?_
    refine st4 _ ?_
    show Steps p.tables e below (T4.setTop (mkF m 67 #[.val (.int p0), .val (.int p1), .val (.int p2), .val (.int p3), .val (.int p4), .val (.int nv), .val (.int mv), .val (.int (1 : Int32)), .val (.int sv), .val (.int tv), .val (.ref b3), .unset, .unset, .unset, .unset] [(.ref b4)])) _
    refine XS.goto X4.here hx rfl (pc0 := 67) (pc' := 71) rfl (hb hby at_67) (by decide) (by decide) ?_
    refine XS.astore X4.here hx rfl (hb hby at_71) rfl rfl (l' := #[.val (.int p0), .val (.int p1), .val (.int p2), .val (.int p3), .val (.int p4), .val (.int nv), .val (.int mv), .val (.int (1 : Int32)), .val (.int sv), .val (.int tv), .val (.ref b3), .val (.ref b4), .unset, .unset, .unset]) rfl ?_
    refine st7 _ ?_
    show Steps p.tables e below (T7.setTop (mkF m 76 #[.val (.int p0), .val (.int p1), .val (.int p2), .val (.int p3), .val (.int p4), .val (.int nv), .val (.int mv), .val (.int (1 : Int32)), .val (.int sv), .val (.int tv), .val (.ref b3), .val (.ref b4), .unset, .unset, .unset] [(.ref b7)])) _
    refine XS.dup X7.here hx rfl (hb hby at_76) rfl rfl ?_
    refine XS.aload X7.here hx rfl (hb hby at_77) rfl rfl ?_
    refine XS.aload X7.here hx rfl (hb hby at_79) rfl rfl ?_
    refine st11.trans ?_
    show Steps p.tables e below (T11.setTop (mkF m 84 #[.val (.int p0), .val (.int p1), .val (.int p2), .val (.int p3), .val (.int p4), .val (.int nv), .val (.int mv), .val (.int (1 : Int32)), .val (.int sv), .val (.int tv), .val (.ref b3), .val (.ref b4), .unset, .unset, .unset] [(.ref b7)])) _
    refine XS.astore X11.here hx rfl (hb hby at_84) rfl rfl (l' := #[.val (.int p0), .val (.int p1), .val (.int p2), .val (.int p3), .val (.int p4), .val (.int nv), .val (.int mv), .val (.int (1 : Int32)), .val (.int sv), .val (.int tv), .val (.ref b3), .val (.ref b4), .val (.ref b7), .unset, .unset]) rfl ?_
    refine XS.aload X11.here hx rfl (hb hby at_86) rfl rfl ?_
    show Steps p.tables e below (T11.setTop (mkF m 88 #[.val (.int p0), .val (.int p1), .val (.int p2), .val (.int p3), .val (.int p4), .val (.int nv), .val (.int mv), .val (.int (1 : Int32)), .val (.int sv), .val (.int tv), .val (.ref b3), .val (.ref b4), .val (.ref b7), .unset, .unset] [(.ref b7)])) _
    refine XS.iload X11.here hx rfl (hb hby at_88) rfl ?_
    refine XS.iload X11.here hx rfl (hb hby at_90) rfl ?_
    refine st19.trans ?_
    show Steps p.tables e below (T19.setTop (mkF m 95 #[.val (.int p0), .val (.int p1), .val (.int p2), .val (.int p3), .val (.int p4), .val (.int nv), .val (.int mv), .val (.int (1 : Int32)), .val (.int sv), .val (.int tv), .val (.ref b3), .val (.ref b4), .val (.ref b7), .unset, .unset] [(.int (1 : Int32))])) _
    refine XS.istore X19.here hx rfl (hb hby at_95) rfl (l' := #[.val (.int p0), .val (.int p1), .val (.int p2), .val (.int p3), .val (.int p4), .val (.int nv), .val (.int mv), .val (.int (1 : Int32)), .val (.int sv), .val (.int tv), .val (.ref b3), .val (.ref b4), .val (.ref b7), .val (.int (1 : Int32)), .unset]) rfl ?_
    refine XS.iload X19.here hx rfl (hb hby at_97) rfl ?_
    refine XS.iload X19.here hx rfl (hb hby at_99) rfl ?_
    show Steps p.tables e below (T19.setTop (mkF m 101 #[.val (.int p0), .val (.int p1), .val (.int p2), .val (.int p3), .val (.int p4), .val (.int nv), .val (.int mv), .val (.int (1 : Int32)), .val (.int sv), .val (.int tv), .val (.ref b3), .val (.ref b4), .val (.ref b7), .val (.int (1 : Int32)), .unset] [(.int nv), (.int sv)])) _
    refine XS.icmpYes X19.here hx rfl (pc0 := 101) (pc' := 110) rfl (hb hby at_101) rfl (teq hc101).1 (by decide) (by decide) ?_
    refine XS.iload X19.here hx rfl (hb hby at_110) rfl ?_
    refine XS.ifYes X19.here hx rfl (pc0 := 112) (pc' := 121) rfl (hb hby at_112) rfl ((if0 _ _).trans (feq (by decide : ¬ ((1 : Int32) = (0 : Int32)))).2) (by decide) (by decide) ?_
    refine XS.iload X19.here hx rfl (hb hby at_121) rfl ?_
    refine XS.iload X19.here hx rfl (hb hby at_123) rfl ?_
    refine XS.icmpNo X19.here hx rfl (hb hby at_125) rfl (teq hc125).2 ?_
    show Steps p.tables e below (T19.setTop (mkF m 128 #[.val (.int p0), .val (.int p1), .val (.int p2), .val (.int p3), .val (.int p4), .val (.int nv), .val (.int mv), .val (.int (1 : Int32)), .val (.int sv), .val (.int tv), .val (.ref b3), .val (.ref b4), .val (.ref b7), .val (.int (1 : Int32)), .unset] [])) _
    refine XS.iconst X19.here hx rfl (hb hby at_128) ?_
    refine XS.goto X19.here hx rfl (pc0 := 129) (pc' := 133) rfl (hb hby at_129) (by decide) (by decide) ?_
    refine XS.istore X19.here hx rfl (hb hby at_133) rfl (l' := #[.val (.int p0), .val (.int p1), .val (.int p2), .val (.int p3), .val (.int p4), .val (.int nv), .val (.int mv), .val (.int (1 : Int32)), .val (.int sv), .val (.int tv), .val (.ref b3), .val (.ref b4), .val (.ref b7), .val (.int (1 : Int32)), .val (.int (1 : Int32))]) rfl ?_
    refine XS.iload X19.here hx rfl (hb hby at_135) rfl ?_
    refine XS.iload X19.here hx rfl (hb hby at_137) rfl ?_
    refine XS.icmpNo X19.here hx rfl (hb hby at_139) rfl (teq (by decide : (1 : Int32) = (1 : Int32))).2 ?_
    show Steps p.tables e below (T19.setTop (mkF m 142 #[.val (.int p0), .val (.int p1), .val (.int p2), .val (.int p3), .val (.int p4), .val (.int nv), .val (.int mv), .val (.int (1 : Int32)), .val (.int sv), .val (.int tv), .val (.ref b3), .val (.ref b4), .val (.ref b7), .val (.int (1 : Int32)), .val (.int (1 : Int32))] [])) _
    refine XS.iconst X19.here hx rfl (hb hby at_142) ?_
    refine XS.goto X19.here hx rfl (pc0 := 143) (pc' := 147) rfl (hb hby at_143) (by decide) (by decide) ?_
    exact retN X19 hx (t := .boolean) Bd.returns (by simp) (hb hby at_147) hr
  · show Q0 n0 _ T19.heap _
    rw [e19]
    exact ⟨rfl, N19⟩
set_option maxRecDepth 65536 in
set_option maxHeartbeats 40000000 in
theorem rm0Yc (l : Launch) (Z : State) (a0 : Array Value) (hw : ∀ d ∈ tables_1, d.before a0 Z = true) (ws : List Jvm.Cond) (p0 : Int32) (p1 : Int32) (p2 : Int32) (p3 : Int32) (p4 : Int32) (nv : Int32) (mv : Int32) (sv : Int32) (tv : Int32) (h0 : Heap) (n0 : Nat) (Z0 : n0 ≤ h0.size) (hn1 : ¬ nv < 0) (hn2 : nv.toNatClampNeg ≤ 3) (hm1 : ¬ mv < 0) (hm2 : mv.toNatClampNeg ≤ 3) (hv2 : (p0 &&& (3 : Int32)) = nv) (hv7 : (p1 &&& (3 : Int32)) = mv) (hc13 : ¬ ((p2 &&& (1 : Int32)) = (0 : Int32))) (hj_sv : (if (p2 &&& (2 : Int32)) = (0 : Int32) then p3 else nv) = sv) (hj_tv : (if (p2 &&& (4 : Int32)) = (0 : Int32) then p4 else mv) = tv) (hcase_81 : ((¬ ((0 : Int32) < nv)) ∧ (¬ ((0 : Int32) < mv))) ∨ ((¬ ((0 : Int32) < nv)) ∧ ((0 : Int32) < mv) ∧ (¬ (0 : Int32) < 0 ∧ (0 : Int32) < mv) ∧ (¬ ((1 : Int32) < mv))) ∨ ((¬ ((0 : Int32) < nv)) ∧ ((0 : Int32) < mv) ∧ (¬ (0 : Int32) < 0 ∧ (0 : Int32) < mv) ∧ ((1 : Int32) < mv) ∧ (¬ (1 : Int32) < 0 ∧ (1 : Int32) < mv) ∧ (¬ ((2 : Int32) < mv))) ∨ ((¬ ((0 : Int32) < nv)) ∧ ((0 : Int32) < mv) ∧ (¬ (0 : Int32) < 0 ∧ (0 : Int32) < mv) ∧ ((1 : Int32) < mv) ∧ (¬ (1 : Int32) < 0 ∧ (1 : Int32) < mv) ∧ ((2 : Int32) < mv) ∧ (¬ (2 : Int32) < 0 ∧ (2 : Int32) < mv) ∧ (¬ ((3 : Int32) < mv))) ∨ (((0 : Int32) < nv) ∧ (¬ (0 : Int32) < 0 ∧ (0 : Int32) < nv) ∧ (¬ ((1 : Int32) < nv)) ∧ (¬ ((0 : Int32) < mv))) ∨ (((0 : Int32) < nv) ∧ (¬ (0 : Int32) < 0 ∧ (0 : Int32) < nv) ∧ (¬ ((1 : Int32) < nv)) ∧ ((0 : Int32) < mv) ∧ (¬ (0 : Int32) < 0 ∧ (0 : Int32) < mv) ∧ (¬ ((1 : Int32) < mv))) ∨ (((0 : Int32) < nv) ∧ (¬ (0 : Int32) < 0 ∧ (0 : Int32) < nv) ∧ (¬ ((1 : Int32) < nv)) ∧ ((0 : Int32) < mv) ∧ (¬ (0 : Int32) < 0 ∧ (0 : Int32) < mv) ∧ ((1 : Int32) < mv) ∧ (¬ (1 : Int32) < 0 ∧ (1 : Int32) < mv) ∧ (¬ ((2 : Int32) < mv))) ∨ (((0 : Int32) < nv) ∧ (¬ (0 : Int32) < 0 ∧ (0 : Int32) < nv) ∧ (¬ ((1 : Int32) < nv)) ∧ ((0 : Int32) < mv) ∧ (¬ (0 : Int32) < 0 ∧ (0 : Int32) < mv) ∧ ((1 : Int32) < mv) ∧ (¬ (1 : Int32) < 0 ∧ (1 : Int32) < mv) ∧ ((2 : Int32) < mv) ∧ (¬ (2 : Int32) < 0 ∧ (2 : Int32) < mv) ∧ (¬ ((3 : Int32) < mv))) ∨ (((0 : Int32) < nv) ∧ (¬ (0 : Int32) < 0 ∧ (0 : Int32) < nv) ∧ ((1 : Int32) < nv) ∧ (¬ (1 : Int32) < 0 ∧ (1 : Int32) < nv) ∧ (¬ ((2 : Int32) < nv)) ∧ (¬ ((0 : Int32) < mv))) ∨ (((0 : Int32) < nv) ∧ (¬ (0 : Int32) < 0 ∧ (0 : Int32) < nv) ∧ ((1 : Int32) < nv) ∧ (¬ (1 : Int32) < 0 ∧ (1 : Int32) < nv) ∧ (¬ ((2 : Int32) < nv)) ∧ ((0 : Int32) < mv) ∧ (¬ (0 : Int32) < 0 ∧ (0 : Int32) < mv) ∧ (¬ ((1 : Int32) < mv))) ∨ (((0 : Int32) < nv) ∧ (¬ (0 : Int32) < 0 ∧ (0 : Int32) < nv) ∧ ((1 : Int32) < nv) ∧ (¬ (1 : Int32) < 0 ∧ (1 : Int32) < nv) ∧ (¬ ((2 : Int32) < nv)) ∧ ((0 : Int32) < mv) ∧ (¬ (0 : Int32) < 0 ∧ (0 : Int32) < mv) ∧ ((1 : Int32) < mv) ∧ (¬ (1 : Int32) < 0 ∧ (1 : Int32) < mv) ∧ (¬ ((2 : Int32) < mv))) ∨ (((0 : Int32) < nv) ∧ (¬ (0 : Int32) < 0 ∧ (0 : Int32) < nv) ∧ ((1 : Int32) < nv) ∧ (¬ (1 : Int32) < 0 ∧ (1 : Int32) < nv) ∧ (¬ ((2 : Int32) < nv)) ∧ ((0 : Int32) < mv) ∧ (¬ (0 : Int32) < 0 ∧ (0 : Int32) < mv) ∧ ((1 : Int32) < mv) ∧ (¬ (1 : Int32) < 0 ∧ (1 : Int32) < mv) ∧ ((2 : Int32) < mv) ∧ (¬ (2 : Int32) < 0 ∧ (2 : Int32) < mv) ∧ (¬ ((3 : Int32) < mv))) ∨ (((0 : Int32) < nv) ∧ (¬ (0 : Int32) < 0 ∧ (0 : Int32) < nv) ∧ ((1 : Int32) < nv) ∧ (¬ (1 : Int32) < 0 ∧ (1 : Int32) < nv) ∧ ((2 : Int32) < nv) ∧ (¬ (2 : Int32) < 0 ∧ (2 : Int32) < nv) ∧ (¬ ((3 : Int32) < nv)) ∧ (¬ ((0 : Int32) < mv))) ∨ (((0 : Int32) < nv) ∧ (¬ (0 : Int32) < 0 ∧ (0 : Int32) < nv) ∧ ((1 : Int32) < nv) ∧ (¬ (1 : Int32) < 0 ∧ (1 : Int32) < nv) ∧ ((2 : Int32) < nv) ∧ (¬ (2 : Int32) < 0 ∧ (2 : Int32) < nv) ∧ (¬ ((3 : Int32) < nv)) ∧ ((0 : Int32) < mv) ∧ (¬ (0 : Int32) < 0 ∧ (0 : Int32) < mv) ∧ (¬ ((1 : Int32) < mv))) ∨ (((0 : Int32) < nv) ∧ (¬ (0 : Int32) < 0 ∧ (0 : Int32) < nv) ∧ ((1 : Int32) < nv) ∧ (¬ (1 : Int32) < 0 ∧ (1 : Int32) < nv) ∧ ((2 : Int32) < nv) ∧ (¬ (2 : Int32) < 0 ∧ (2 : Int32) < nv) ∧ (¬ ((3 : Int32) < nv)) ∧ ((0 : Int32) < mv) ∧ (¬ (0 : Int32) < 0 ∧ (0 : Int32) < mv) ∧ ((1 : Int32) < mv) ∧ (¬ (1 : Int32) < 0 ∧ (1 : Int32) < mv) ∧ (¬ ((2 : Int32) < mv))) ∨ (((0 : Int32) < nv) ∧ (¬ (0 : Int32) < 0 ∧ (0 : Int32) < nv) ∧ ((1 : Int32) < nv) ∧ (¬ (1 : Int32) < 0 ∧ (1 : Int32) < nv) ∧ ((2 : Int32) < nv) ∧ (¬ (2 : Int32) < 0 ∧ (2 : Int32) < nv) ∧ (¬ ((3 : Int32) < nv)) ∧ ((0 : Int32) < mv) ∧ (¬ (0 : Int32) < 0 ∧ (0 : Int32) < mv) ∧ ((1 : Int32) < mv) ∧ (¬ (1 : Int32) < 0 ∧ (1 : Int32) < mv) ∧ ((2 : Int32) < mv) ∧ (¬ (2 : Int32) < 0 ∧ (2 : Int32) < mv) ∧ (¬ ((3 : Int32) < mv)))) (hc6_92 : nv = sv) (hc22_92 : ¬ (mv = tv)) (hc101 : sv = nv) (hc125 : ¬ (tv = mv)) :
    MetFree l x (head1 (Jvm.Cond.code x code maxLocals ret :: ws) room_1) (fun a U => a = #[(.int p0), (.int p1), (.int p2), (.int p3), (.int p4)] ∧ Z.Warmed39 U.vm ∧ U.heap = h0) (fun _ _ _ _ _ => True) (fun _ U o U' => ∃ v L, o = .returned v ∧ Q0 n0 v U'.heap L ∧ ReturnedEndW U o U' L room_1.cells room_1.slots) := by
  refine MetFree.of_bodySF (plainFor_of_name pn_com_example_hedge_hedge_RewardStructureFitsPinLaw) hisR ?_
  intro p e s m args below meth c s₁ Bd hml0 hP hK
  obtain ⟨rfl, hZ, hh⟩ := hP
  have hx := Bd.exec
  have hby := Bd.bytes
  have hml : c.maxLocals = 15 := hml0
  have hown : s.vm.findClass "com/example/hedge/hedge/RewardStructureFitsPinLaw" = some m.cls := findClass_of_methodNamed Bd.named
  have hnm := (name_of_methodNamed Bd.named Bd.method).1
  have X0 : Stand p l e room_1 s m #[(.int p0), (.int p1), (.int p2), (.int p3), (.int p4)] below meth c s₁ [] 0 0 := Stand.of_body Bd
  have e0 : s₁.heap = h0 := by rw [← hh, Bd.state]; rfl
  have N0 := Fr.nil n0
  have pre0 : ∀ t, Steps p.tables e below (s₁.setTop (mkF m 0 #[.val (.int p0), .val (.int p1), .val (.int p2), .val (.int p3), .val (.int p4), .unset, .unset, .unset, .unset, .unset, .unset, .unset, .unset, .unset, .unset] [])) t → Steps p.tables e below (s₁.setTop (entryFrame m #[(.int p0), (.int p1), (.int p2), (.int p3), (.int p4)] maxLocals)) t := fun t k => castTop (ef_0_IIIII m p0 p1 p2 p3 p4) k
  obtain ⟨vm0, k00, X0, hS0, hk0, hZ0, hown0⟩ := own_W0 X0 e0 hZ hown
  have jn1 : ∀ target, Steps p.tables e below (s₁.setTop (mkF m 35 #[.val (.int p0), .val (.int p1), .val (.int p2), .val (.int p3), .val (.int p4), .val (.int nv), .val (.int mv), .val (.int (1 : Int32)), .unset, .unset, .unset, .unset, .unset, .unset, .unset] [(.int sv)])) target → Steps p.tables e below (s₁.setTop (mkF m 26 #[.val (.int p0), .val (.int p1), .val (.int p2), .val (.int p3), .val (.int p4), .val (.int nv), .val (.int mv), .val (.int (1 : Int32)), .unset, .unset, .unset, .unset, .unset, .unset, .unset] [(.int (p2 &&& (2 : Int32)))])) target := by
    intro target kt
    by_cases hq : (p2 &&& (2 : Int32)) = (0 : Int32)
    · rw [if_pos hq] at hj_sv; subst hj_sv
      show Steps p.tables e below (s₁.setTop (mkF m 26 #[.val (.int p0), .val (.int p1), .val (.int p2), .val (.int p3), .val (.int p4), .val (.int nv), .val (.int mv), .val (.int (1 : Int32)), .unset, .unset, .unset, .unset, .unset, .unset, .unset] [(.int (p2 &&& (2 : Int32)))])) _
      refine XS.ifYes X0.here hx rfl (pc0 := 26) (pc' := 34) rfl (hb hby at_26) rfl ((if0 _ _).trans (teq hq).1) (by decide) (by decide) ?_
      refine XS.iloadN X0.here hx rfl (hb hby at_34) rfl ?_
      show Steps p.tables e below (s₁.setTop (mkF m 35 #[.val (.int p0), .val (.int p1), .val (.int p2), .val (.int p3), .val (.int p4), .val (.int nv), .val (.int mv), .val (.int (1 : Int32)), .unset, .unset, .unset, .unset, .unset, .unset, .unset] [(.int p3)])) _
      exact kt
    · rw [if_neg hq] at hj_sv; subst hj_sv
      show Steps p.tables e below (s₁.setTop (mkF m 26 #[.val (.int p0), .val (.int p1), .val (.int p2), .val (.int p3), .val (.int p4), .val (.int nv), .val (.int mv), .val (.int (1 : Int32)), .unset, .unset, .unset, .unset, .unset, .unset, .unset] [(.int (p2 &&& (2 : Int32)))])) _
      refine XS.ifNo X0.here hx rfl (hb hby at_26) rfl ((if0 _ _).trans (feq hq).1) ?_
      show Steps p.tables e below (s₁.setTop (mkF m 29 #[.val (.int p0), .val (.int p1), .val (.int p2), .val (.int p3), .val (.int p4), .val (.int nv), .val (.int mv), .val (.int (1 : Int32)), .unset, .unset, .unset, .unset, .unset, .unset, .unset] [])) _
      refine XS.iload X0.here hx rfl (hb hby at_29) rfl ?_
      refine XS.goto X0.here hx rfl (pc0 := 31) (pc' := 35) rfl (hb hby at_31) (by decide) (by decide) ?_
      show Steps p.tables e below (s₁.setTop (mkF m 35 #[.val (.int p0), .val (.int p1), .val (.int p2), .val (.int p3), .val (.int p4), .val (.int nv), .val (.int mv), .val (.int (1 : Int32)), .unset, .unset, .unset, .unset, .unset, .unset, .unset] [(.int nv)])) _
      exact kt
  have jn2 : ∀ target, Steps p.tables e below (s₁.setTop (mkF m 50 #[.val (.int p0), .val (.int p1), .val (.int p2), .val (.int p3), .val (.int p4), .val (.int nv), .val (.int mv), .val (.int (1 : Int32)), .val (.int sv), .unset, .unset, .unset, .unset, .unset, .unset] [(.int tv)])) target → Steps p.tables e below (s₁.setTop (mkF m 40 #[.val (.int p0), .val (.int p1), .val (.int p2), .val (.int p3), .val (.int p4), .val (.int nv), .val (.int mv), .val (.int (1 : Int32)), .val (.int sv), .unset, .unset, .unset, .unset, .unset, .unset] [(.int (p2 &&& (4 : Int32)))])) target := by
    intro target kt
    by_cases hq : (p2 &&& (4 : Int32)) = (0 : Int32)
    · rw [if_pos hq] at hj_tv; subst hj_tv
      show Steps p.tables e below (s₁.setTop (mkF m 40 #[.val (.int p0), .val (.int p1), .val (.int p2), .val (.int p3), .val (.int p4), .val (.int nv), .val (.int mv), .val (.int (1 : Int32)), .val (.int sv), .unset, .unset, .unset, .unset, .unset, .unset] [(.int (p2 &&& (4 : Int32)))])) _
      refine XS.ifYes X0.here hx rfl (pc0 := 40) (pc' := 48) rfl (hb hby at_40) rfl ((if0 _ _).trans (teq hq).1) (by decide) (by decide) ?_
      refine XS.iload X0.here hx rfl (hb hby at_48) rfl ?_
      show Steps p.tables e below (s₁.setTop (mkF m 50 #[.val (.int p0), .val (.int p1), .val (.int p2), .val (.int p3), .val (.int p4), .val (.int nv), .val (.int mv), .val (.int (1 : Int32)), .val (.int sv), .unset, .unset, .unset, .unset, .unset, .unset] [(.int p4)])) _
      exact kt
    · rw [if_neg hq] at hj_tv; subst hj_tv
      show Steps p.tables e below (s₁.setTop (mkF m 40 #[.val (.int p0), .val (.int p1), .val (.int p2), .val (.int p3), .val (.int p4), .val (.int nv), .val (.int mv), .val (.int (1 : Int32)), .val (.int sv), .unset, .unset, .unset, .unset, .unset, .unset] [(.int (p2 &&& (4 : Int32)))])) _
      refine XS.ifNo X0.here hx rfl (hb hby at_40) rfl ((if0 _ _).trans (feq hq).1) ?_
      refine XS.iload X0.here hx rfl (hb hby at_43) rfl ?_
      refine XS.goto X0.here hx rfl (pc0 := 45) (pc' := 50) rfl (hb hby at_45) (by decide) (by decide) ?_
      show Steps p.tables e below (s₁.setTop (mkF m 50 #[.val (.int p0), .val (.int p1), .val (.int p2), .val (.int p3), .val (.int p4), .val (.int nv), .val (.int mv), .val (.int (1 : Int32)), .val (.int sv), .unset, .unset, .unset, .unset, .unset, .unset] [(.int mv)])) _
      exact kt
  obtain ⟨T3, h3, k3, X3, e3, E3, A3, B3, st3⟩ := newPE X0 hx hZ0 (hw _ (List.mem_of_getElem? (i := 0) rfl)) e0 (g := (mkF m 54 #[.val (.int p0), .val (.int p1), .val (.int p2), .val (.int p3), .val (.int p4), .val (.int nv), .val (.int mv), .val (.int (1 : Int32)), .val (.int sv), .val (.int tv), .unset, .unset, .unset, .unset, .unset] [(.int nv)])) rfl (hb hby at_54) rfl hn1 (cap := 3) hn2 (by decide) (by decide) (by decide) (ad := "[D") rfl
  obtain ⟨b3, g3⟩ : ∃ z, z = h0.size := ⟨_, rfl⟩
  rw [← g3] at A3 st3 B3
  have g_b3 : n0 ≤ b3 := Nat.le_trans Z0 (Nat.le_of_eq g3.symm)
  have sz_b3 : h0.size ≤ b3 := Nat.le_trans (Keep.refl h0 []).1 (Nat.le_of_eq g3.symm)
  have K3 : Keep h0 h3 [] := (Keep.refl h0 []).ext E3
  have Zs3 := Nat.le_trans Z0 E3.1
  have hk3 := Nat.le_trans hk0 E3.1
  have V3 : Arv Z h3 b3 k3 .double nv [] (.double (0 : UInt64)) := Arv.new A3 hn1
  obtain ⟨T4, h4, k4, X4, e4, E4, A4, st4⟩ := newP X3 hx hZ0 (hw _ (List.mem_of_getElem? (i := 0) rfl)) e3 (g := (mkF m 65 #[.val (.int p0), .val (.int p1), .val (.int p2), .val (.int p3), .val (.int p4), .val (.int nv), .val (.int mv), .val (.int (1 : Int32)), .val (.int sv), .val (.int tv), .val (.ref b3), .unset, .unset, .unset, .unset] [(.int mv)])) rfl (hb hby at_65) rfl hm1 (cap := 3) hm2 (by decide) (by decide) (by decide)
  obtain ⟨b4, g4⟩ : ∃ z, z = h3.size := ⟨_, rfl⟩
  rw [← g4] at A4 st4
  have ne_b3_b4 : b3 ≠ b4 := Nat.ne_of_lt (Nat.lt_of_lt_of_le V3.lt (Nat.le_of_eq g4.symm))
  have g_b4 : n0 ≤ b4 := Nat.le_trans Zs3 (Nat.le_of_eq g4.symm)
  have sz_b4 : h0.size ≤ b4 := Nat.le_trans K3.1 (Nat.le_of_eq g4.symm)
  have f5 := V3.ext E4
  have f6 := B3.ext E4
  have K4 : Keep h0 h4 [] := K3.ext E4
  have Zs4 := Nat.le_trans Zs3 E4.1
  have hk4 := Nat.le_trans hk3 E4.1
  have V4 : Arv Z h4 b4 k4 .double mv [] (.double (0 : UInt64)) := Arv.new A4 hm1
  obtain ⟨T7, h7, X7, e7, E7, A7, D7, -, st7⟩ := newO X4 hx hZ0 hown0 (hw _ (List.mem_of_getElem? (i := 1) rfl)) (hw _ (List.mem_of_getElem? (i := 2) rfl)) (hw _ (List.mem_of_getElem? (i := 3) rfl)) e4 (g := (mkF m 73 #[.val (.int p0), .val (.int p1), .val (.int p2), .val (.int p3), .val (.int p4), .val (.int nv), .val (.int mv), .val (.int (1 : Int32)), .val (.int sv), .val (.int tv), .val (.ref b3), .val (.ref b4), .unset, .unset, .unset] [])) rfl (hb hby at_73) (by decide) (by decide)
  obtain ⟨b7, g7⟩ : ∃ z, z = h4.size := ⟨_, rfl⟩
  rw [← g7] at A7 D7 st7
  have ne_b3_b7 : b3 ≠ b7 := Nat.ne_of_lt (Nat.lt_of_lt_of_le f5.lt (Nat.le_of_eq g7.symm))
  have ne_b4_b7 : b4 ≠ b7 := Nat.ne_of_lt (Nat.lt_of_lt_of_le V4.lt (Nat.le_of_eq g7.symm))
  have g_b7 : n0 ≤ b7 := Nat.le_trans Zs4 (Nat.le_of_eq g7.symm)
  have sz_b7 : h0.size ≤ b7 := Nat.le_trans K4.1 (Nat.le_of_eq g7.symm)
  have f8 := f5.ext E7
  have f9 := f6.ext E7
  have f10 := V4.ext E7
  have K7 : Keep h0 h7 [] := K4.ext E7
  have Zs7 := Nat.le_trans Zs4 E7.1
  have hk7 := Nat.le_trans hk4 E7.1
  have F7_state : Fld Z h7 b7 "com/example/hedge/hedge/RewardStructure" "state" "[D" .null := D7 (Or.inr (hw _ (List.mem_of_getElem? (i := 25) rfl))) (ty := (.array .double)) (by decide)
  have F7_transition : Fld Z h7 b7 "com/example/hedge/hedge/RewardStructure" "transition" "[D" .null := D7 (Or.inr (hw _ (List.mem_of_getElem? (i := 27) rfl))) (ty := (.array .double)) (by decide)
  obtain ⟨_, _, ⟨T11, L11, k11, n11⟩, -, X11, hs11, gr11, ⟨Lc11, hQ11, lq11, yq11, zq11⟩, st11⟩ := X7.specialBackS hx (y := (⟨"com/example/hedge/hedge/RewardStructure", "<init>", "([D[D)V"⟩ : MethodName)) rfl hown0 (mvT hZ0 (hw _ (List.mem_of_getElem? (i := 4) rfl))) (mvT hZ0 (hw _ (List.mem_of_getElem? (i := 5) rfl))) (mvT hZ0 (hw _ (List.mem_of_getElem? (i := 6) rfl))) (by decide) (backOfS (W := 1) (iniY l Z a0 hw [] b7 b3 b4 nv k3 mv k4 h7 n0 Zs7 A7 g_b7 F7_state F7_transition f9 f8 f10 (Ne.symm ne_b3_b7) (Ne.symm ne_b4_b7) hcase_81) hZ0 (hw _ (List.mem_of_getElem? (i := 6) rfl)) (hw _ (List.mem_of_getElem? (i := 3) rfl)) (by decide) (by decide)) (g := (mkF m 81 #[.val (.int p0), .val (.int p1), .val (.int p2), .val (.int p3), .val (.int p4), .val (.int nv), .val (.int mv), .val (.int (1 : Int32)), .val (.int sv), .val (.int tv), .val (.ref b3), .val (.ref b4), .unset, .unset, .unset] [(.ref b4), (.ref b3), (.ref b7), (.ref b7)])) rfl (by rw [hml]; rfl) (Steps.refl _) (a := b7) (argsL := [(.ref b3), (.ref b4)]) (rest := [(.ref b7)]) (lenOf pd_2 rfl) rfl (by show 2 * 0 + _ ≤ _; exact Nat.le_of_eq rfl) (hb hby at_81) (fun _ _ => ⟨rfl, e7, (by decide : 3 + 2 ≤ _), (by decide : 8 + 24 ≤ _)⟩)
  dsimp only [Pt.U, Pt.locs, Pt.cells, Pt.slots] at X11 lq11 yq11 zq11 st11 hQ11 hs11 gr11
  rw [lq11, yq11, zq11] at X11
  obtain ⟨X11, hS11, hZ11, hown11⟩ := own_fold X11 hS0 hs11 (Nat.le_trans (by rw [e7]; exact hk7) gr11) hZ0 hown0
  obtain ⟨rfl, N11q, K11q, f12, f13, f14⟩ := hQ11
  have N11 := Fr.app N0 N11q
  have f15 := f8.keep K11q (own_niS ne_b3_b7 own_ni0)
  have f16 := f9.keep K11q
  have f17 := f10.keep K11q (own_niS ne_b4_b7 own_ni0)
  have f18 := A7.keep K11q
  have K11 : Keep h0 T11.heap [] := K7.trans K11q (own_allS (Or.inr sz_b7) own_all0)
  have Zs11 := Nat.le_trans Zs7 K11q.1
  have hk11 := Nat.le_trans hk7 K11q.1
  have hkq11 : T11.heap.size ≤ T11.heap.size := Nat.le_refl _
  obtain ⟨cq19, kq19, q19a, q19b, q19c⟩ := isOf hZ11 rfl f12
  obtain ⟨_, _, ⟨T19, L19, k19, n19⟩, -, X19, ⟨Lc19, hQ19, lq19, yq19, zq19⟩, st19⟩ := X11.virtualBack hx (y := (⟨"com/example/hedge/hedge/RewardStructure", "fits", "(II)Z"⟩ : MethodName)) (z := (⟨"com/example/hedge/hedge/RewardStructure", "fits", "(II)Z"⟩ : MethodName)) hown11 (mvT hZ11 (hw _ (List.mem_of_getElem? (i := 28) rfl))) (mvT hZ11 (hw _ (List.mem_of_getElem? (i := 29) rfl))) (notFace_of_selects (args := #[]) (mvT hZ11 (hw _ (List.mem_of_getElem? (i := 31) rfl)))) (mvT hZ11 (hw _ (List.mem_of_getElem? (i := 31) rfl))) (mvT hZ11 (hw _ (List.mem_of_getElem? (i := 30) rfl))) (by decide) (backOf (W := 0) (fYc l Z a0 hw [] b7 sv tv b3 b4 nv k3 mv k4 T11.heap n0 Zs11 f13 f14 f15 f17 hc6_92 hc22_92) hZ11 (hw _ (List.mem_of_getElem? (i := 32) rfl)) (hw _ (List.mem_of_getElem? (i := 3) rfl)) (by decide) (by decide)) q19a q19c (g := (mkF m 92 #[.val (.int p0), .val (.int p1), .val (.int p2), .val (.int p3), .val (.int p4), .val (.int nv), .val (.int mv), .val (.int (1 : Int32)), .val (.int sv), .val (.int tv), .val (.ref b3), .val (.ref b4), .val (.ref b7), .unset, .unset] [(.int tv), (.int sv), (.ref b7)])) rfl (by rw [hml]; rfl) (Steps.refl _) (argsL := [(.int sv), (.int tv)]) (rest := []) (lenOf pd_3 rfl) rfl (by show 2 * 0 + _ ≤ _; exact Nat.le_of_eq rfl) (hb hby at_92) (fun _ _ => ⟨rfl, rfl, (by decide : 5 + 0 ≤ _), (by decide : 32 + 0 ≤ _)⟩)
  dsimp only [Pt.U, Pt.locs, Pt.cells, Pt.slots] at X19 lq19 yq19 zq19 st19 hQ19
  rw [lq19, yq19, zq19] at X19
  obtain ⟨rfl, N19q, eh19⟩ := hQ19
  have N19 := Fr.app N11 N19q
  have e19 : T19.heap = T11.heap := eh19
  obtain ⟨fs, hr, hrun, hended, hRW⟩ := X19.leaveW hS11 (by rw [e19]; exact hkq11) (v := some (.int (1 : Int32))) (fun h => by rw [Bd.returns] at h; cases h)
  refine ⟨_, _, pre0 _ ?_, hrun, hended, _, _, rfl, ?_, ⟨_, rfl⟩, hRW.2.1, hRW.2.2.1, hRW.2.2.2.mono (by decide) (by decide)⟩
  · show Steps p.tables e below (s₁.setTop (mkF m 0 #[.val (.int p0), .val (.int p1), .val (.int p2), .val (.int p3), .val (.int p4), .unset, .unset, .unset, .unset, .unset, .unset, .unset, .unset, .unset, .unset] [])) _
    refine XS.iloadN X0.here hx rfl (hb hby at_0) rfl ?_
    refine XS.iconst X0.here hx rfl (hb hby at_1) ?_
    refine XS.iand X0.here hx rfl (hb hby at_2) rfl ?_
    show Steps p.tables e below (s₁.setTop (mkF m 3 #[.val (.int p0), .val (.int p1), .val (.int p2), .val (.int p3), .val (.int p4), .unset, .unset, .unset, .unset, .unset, .unset, .unset, .unset, .unset, .unset] [(.int (p0 &&& (3 : Int32)))])) _
    rw [hv2]
    show Steps p.tables e below (s₁.setTop (mkF m 3 #[.val (.int p0), .val (.int p1), .val (.int p2), .val (.int p3), .val (.int p4), .unset, .unset, .unset, .unset, .unset, .unset, .unset, .unset, .unset, .unset] [(.int nv)])) _
    refine XS.istore X0.here hx rfl (hb hby at_3) rfl (l' := #[.val (.int p0), .val (.int p1), .val (.int p2), .val (.int p3), .val (.int p4), .val (.int nv), .unset, .unset, .unset, .unset, .unset, .unset, .unset, .unset, .unset]) rfl ?_
    show Steps p.tables e below (s₁.setTop (mkF m 5 #[.val (.int p0), .val (.int p1), .val (.int p2), .val (.int p3), .val (.int p4), .val (.int nv), .unset, .unset, .unset, .unset, .unset, .unset, .unset, .unset, .unset] [])) _
    refine XS.iloadN X0.here hx rfl (hb hby at_5) rfl ?_
    refine XS.iconst X0.here hx rfl (hb hby at_6) ?_
    refine XS.iand X0.here hx rfl (hb hby at_7) rfl ?_
    show Steps p.tables e below (s₁.setTop (mkF m 8 #[.val (.int p0), .val (.int p1), .val (.int p2), .val (.int p3), .val (.int p4), .val (.int nv), .unset, .unset, .unset, .unset, .unset, .unset, .unset, .unset, .unset] [(.int (p1 &&& (3 : Int32)))])) _
    rw [hv7]
    show Steps p.tables e below (s₁.setTop (mkF m 8 #[.val (.int p0), .val (.int p1), .val (.int p2), .val (.int p3), .val (.int p4), .val (.int nv), .unset, .unset, .unset, .unset, .unset, .unset, .unset, .unset, .unset] [(.int mv)])) _
    refine XS.istore X0.here hx rfl (hb hby at_8) rfl (l' := #[.val (.int p0), .val (.int p1), .val (.int p2), .val (.int p3), .val (.int p4), .val (.int nv), .val (.int mv), .unset, .unset, .unset, .unset, .unset, .unset, .unset, .unset]) rfl ?_
    refine XS.iloadN X0.here hx rfl (hb hby at_10) rfl ?_
    show Steps p.tables e below (s₁.setTop (mkF m 11 #[.val (.int p0), .val (.int p1), .val (.int p2), .val (.int p3), .val (.int p4), .val (.int nv), .val (.int mv), .unset, .unset, .unset, .unset, .unset, .unset, .unset, .unset] [(.int p2)])) _
    refine XS.iconst X0.here hx rfl (hb hby at_11) ?_
    refine XS.iand X0.here hx rfl (hb hby at_12) rfl ?_
    refine XS.ifNo X0.here hx rfl (hb hby at_13) rfl ((if0 _ _).trans (feq hc13).1) ?_
    refine XS.iconst X0.here hx rfl (hb hby at_16) ?_
    refine XS.goto X0.here hx rfl (pc0 := 17) (pc' := 21) rfl (hb hby at_17) (by decide) (by decide) ?_
    refine XS.istore X0.here hx rfl (hb hby at_21) rfl (l' := #[.val (.int p0), .val (.int p1), .val (.int p2), .val (.int p3), .val (.int p4), .val (.int nv), .val (.int mv), .val (.int (1 : Int32)), .unset, .unset, .unset, .unset, .unset, .unset, .unset]) rfl ?_
    show Steps p.tables e below (s₁.setTop (mkF m 23 #[.val (.int p0), .val (.int p1), .val (.int p2), .val (.int p3), .val (.int p4), .val (.int nv), .val (.int mv), .val (.int (1 : Int32)), .unset, .unset, .unset, .unset, .unset, .unset, .unset] [])) _
    refine XS.iloadN X0.here hx rfl (hb hby at_23) rfl ?_
    refine XS.iconst X0.here hx rfl (hb hby at_24) ?_
    refine XS.iand X0.here hx rfl (hb hby at_25) rfl ?_
    show Steps p.tables e below (s₁.setTop (mkF m 26 #[.val (.int p0), .val (.int p1), .val (.int p2), .val (.int p3), .val (.int p4), .val (.int nv), .val (.int mv), .val (.int (1 : Int32)), .unset, .unset, .unset, .unset, .unset, .unset, .unset] [(.int (p2 &&& (2 : Int32)))])) _
    refine jn1 _ ?_
    show Steps p.tables e below (s₁.setTop (mkF m 35 #[.val (.int p0), .val (.int p1), .val (.int p2), .val (.int p3), .val (.int p4), .val (.int nv), .val (.int mv), .val (.int (1 : Int32)), .unset, .unset, .unset, .unset, .unset, .unset, .unset] [(.int sv)])) _
    refine XS.istore X0.here hx rfl (hb hby at_35) rfl (l' := #[.val (.int p0), .val (.int p1), .val (.int p2), .val (.int p3), .val (.int p4), .val (.int nv), .val (.int mv), .val (.int (1 : Int32)), .val (.int sv), .unset, .unset, .unset, .unset, .unset, .unset]) rfl ?_
    refine XS.iloadN X0.here hx rfl (hb hby at_37) rfl ?_
    refine XS.iconst X0.here hx rfl (hb hby at_38) ?_
    show Steps p.tables e below (s₁.setTop (mkF m 39 #[.val (.int p0), .val (.int p1), .val (.int p2), .val (.int p3), .val (.int p4), .val (.int nv), .val (.int mv), .val (.int (1 : Int32)), .val (.int sv), .unset, .unset, .unset, .unset, .unset, .unset] [(.int (4 : Int32)), (.int p2)])) _
    refine XS.iand X0.here hx rfl (hb hby at_39) rfl ?_
    show Steps p.tables e below (s₁.setTop (mkF m 40 #[.val (.int p0), .val (.int p1), .val (.int p2), .val (.int p3), .val (.int p4), .val (.int nv), .val (.int mv), .val (.int (1 : Int32)), .val (.int sv), .unset, .unset, .unset, .unset, .unset, .unset] [(.int (p2 &&& (4 : Int32)))])) _
    refine jn2 _ ?_
    show Steps p.tables e below (s₁.setTop (mkF m 50 #[.val (.int p0), .val (.int p1), .val (.int p2), .val (.int p3), .val (.int p4), .val (.int nv), .val (.int mv), .val (.int (1 : Int32)), .val (.int sv), .unset, .unset, .unset, .unset, .unset, .unset] [(.int tv)])) _
    refine XS.istore X0.here hx rfl (hb hby at_50) rfl (l' := #[.val (.int p0), .val (.int p1), .val (.int p2), .val (.int p3), .val (.int p4), .val (.int nv), .val (.int mv), .val (.int (1 : Int32)), .val (.int sv), .val (.int tv), .unset, .unset, .unset, .unset, .unset]) rfl ?_
    refine XS.iload X0.here hx rfl (hb hby at_52) rfl ?_
    refine st3 _ ?_
    show Steps p.tables e below (T3.setTop (mkF m 56 #[.val (.int p0), .val (.int p1), .val (.int p2), .val (.int p3), .val (.int p4), .val (.int nv), .val (.int mv), .val (.int (1 : Int32)), .val (.int sv), .val (.int tv), .unset, .unset, .unset, .unset, .unset] [(.ref b3)])) _
    refine XS.astore X3.here hx rfl (hb hby at_56) rfl rfl (l' := #[.val (.int p0), .val (.int p1), .val (.int p2), .val (.int p3), .val (.int p4), .val (.int nv), .val (.int mv), .val (.int (1 : Int32)), .val (.int sv), .val (.int tv), .val (.ref b3), .unset, .unset, .unset, .unset]) rfl ?_
    refine XS.iload X3.here hx rfl (hb hby at_58) rfl ?_
    show Steps p.tables e below (T3.setTop (mkF m 60 #[.val (.int p0), .val (.int p1), .val (.int p2), .val (.int p3), .val (.int p4), .val (.int nv), .val (.int mv), .val (.int (1 : Int32)), .val (.int sv), .val (.int tv), .val (.ref b3), .unset, .unset, .unset, .unset] [(.int (1 : Int32))])) _
    refine XS.ifNo X3.here hx rfl (hb hby at_60) rfl ((if0 _ _).trans (feq (by decide : ¬ ((1 : Int32) = (0 : Int32)))).1) ?_
    refine XS.iload X3.here hx rfl (hb hby at_63) rfl ?_
    refine st4 _ ?_
    show Steps p.tables e below (T4.setTop (mkF m 67 #[.val (.int p0), .val (.int p1), .val (.int p2), .val (.int p3), .val (.int p4), .val (.int nv), .val (.int mv), .val (.int (1 : Int32)), .val (.int sv), .val (.int tv), .val (.ref b3), .unset, .unset, .unset, .unset] [(.ref b4)])) _
    refine XS.goto X4.here hx rfl (pc0 := 67) (pc' := 71) rfl (hb hby at_67) (by decide) (by decide) ?_
    refine XS.astore X4.here hx rfl (hb hby at_71) rfl rfl (l' := #[.val (.int p0), .val (.int p1), .val (.int p2), .val (.int p3), .val (.int p4), .val (.int nv), .val (.int mv), .val (.int (1 : Int32)), .val (.int sv), .val (.int tv), .val (.ref b3), .val (.ref b4), .unset, .unset, .unset]) rfl ?_
    refine st7 _ ?_
    show Steps p.tables e below (T7.setTop (mkF m 76 #[.val (.int p0), .val (.int p1), .val (.int p2), .val (.int p3), .val (.int p4), .val (.int nv), .val (.int mv), .val (.int (1 : Int32)), .val (.int sv), .val (.int tv), .val (.ref b3), .val (.ref b4), .unset, .unset, .unset] [(.ref b7)])) _
    refine XS.dup X7.here hx rfl (hb hby at_76) rfl rfl ?_
    refine XS.aload X7.here hx rfl (hb hby at_77) rfl rfl ?_
    refine XS.aload X7.here hx rfl (hb hby at_79) rfl rfl ?_
    refine st11.trans ?_
    show Steps p.tables e below (T11.setTop (mkF m 84 #[.val (.int p0), .val (.int p1), .val (.int p2), .val (.int p3), .val (.int p4), .val (.int nv), .val (.int mv), .val (.int (1 : Int32)), .val (.int sv), .val (.int tv), .val (.ref b3), .val (.ref b4), .unset, .unset, .unset] [(.ref b7)])) _
    refine XS.astore X11.here hx rfl (hb hby at_84) rfl rfl (l' := #[.val (.int p0), .val (.int p1), .val (.int p2), .val (.int p3), .val (.int p4), .val (.int nv), .val (.int mv), .val (.int (1 : Int32)), .val (.int sv), .val (.int tv), .val (.ref b3), .val (.ref b4), .val (.ref b7), .unset, .unset]) rfl ?_
    refine XS.aload X11.here hx rfl (hb hby at_86) rfl rfl ?_
    show Steps p.tables e below (T11.setTop (mkF m 88 #[.val (.int p0), .val (.int p1), .val (.int p2), .val (.int p3), .val (.int p4), .val (.int nv), .val (.int mv), .val (.int (1 : Int32)), .val (.int sv), .val (.int tv), .val (.ref b3), .val (.ref b4), .val (.ref b7), .unset, .unset] [(.ref b7)])) _
    refine XS.iload X11.here hx rfl (hb hby at_88) rfl ?_
    refine XS.iload X11.here hx rfl (hb hby at_90) rfl ?_
    refine st19.trans ?_
    show Steps p.tables e below (T19.setTop (mkF m 95 #[.val (.int p0), .val (.int p1), .val (.int p2), .val (.int p3), .val (.int p4), .val (.int nv), .val (.int mv), .val (.int (1 : Int32)), .val (.int sv), .val (.int tv), .val (.ref b3), .val (.ref b4), .val (.ref b7), .unset, .unset] [(.int (0 : Int32))])) _
    refine XS.istore X19.here hx rfl (hb hby at_95) rfl (l' := #[.val (.int p0), .val (.int p1), .val (.int p2), .val (.int p3), .val (.int p4), .val (.int nv), .val (.int mv), .val (.int (1 : Int32)), .val (.int sv), .val (.int tv), .val (.ref b3), .val (.ref b4), .val (.ref b7), .val (.int (0 : Int32)), .unset]) rfl ?_
    refine XS.iload X19.here hx rfl (hb hby at_97) rfl ?_
    refine XS.iload X19.here hx rfl (hb hby at_99) rfl ?_
    show Steps p.tables e below (T19.setTop (mkF m 101 #[.val (.int p0), .val (.int p1), .val (.int p2), .val (.int p3), .val (.int p4), .val (.int nv), .val (.int mv), .val (.int (1 : Int32)), .val (.int sv), .val (.int tv), .val (.ref b3), .val (.ref b4), .val (.ref b7), .val (.int (0 : Int32)), .unset] [(.int nv), (.int sv)])) _
    refine XS.icmpYes X19.here hx rfl (pc0 := 101) (pc' := 110) rfl (hb hby at_101) rfl (teq hc101).1 (by decide) (by decide) ?_
    refine XS.iload X19.here hx rfl (hb hby at_110) rfl ?_
    refine XS.ifYes X19.here hx rfl (pc0 := 112) (pc' := 121) rfl (hb hby at_112) rfl ((if0 _ _).trans (feq (by decide : ¬ ((1 : Int32) = (0 : Int32)))).2) (by decide) (by decide) ?_
    refine XS.iload X19.here hx rfl (hb hby at_121) rfl ?_
    refine XS.iload X19.here hx rfl (hb hby at_123) rfl ?_
    refine XS.icmpYes X19.here hx rfl (pc0 := 125) (pc' := 132) rfl (hb hby at_125) rfl (feq hc125).2 (by decide) (by decide) ?_
    show Steps p.tables e below (T19.setTop (mkF m 132 #[.val (.int p0), .val (.int p1), .val (.int p2), .val (.int p3), .val (.int p4), .val (.int nv), .val (.int mv), .val (.int (1 : Int32)), .val (.int sv), .val (.int tv), .val (.ref b3), .val (.ref b4), .val (.ref b7), .val (.int (0 : Int32)), .unset] [])) _
    refine XS.iconst X19.here hx rfl (hb hby at_132) ?_
    refine XS.istore X19.here hx rfl (hb hby at_133) rfl (l' := #[.val (.int p0), .val (.int p1), .val (.int p2), .val (.int p3), .val (.int p4), .val (.int nv), .val (.int mv), .val (.int (1 : Int32)), .val (.int sv), .val (.int tv), .val (.ref b3), .val (.ref b4), .val (.ref b7), .val (.int (0 : Int32)), .val (.int (0 : Int32))]) rfl ?_
    refine XS.iload X19.here hx rfl (hb hby at_135) rfl ?_
    refine XS.iload X19.here hx rfl (hb hby at_137) rfl ?_
    refine XS.icmpNo X19.here hx rfl (hb hby at_139) rfl (teq (by decide : (0 : Int32) = (0 : Int32))).2 ?_
    refine XS.iconst X19.here hx rfl (hb hby at_142) ?_
    show Steps p.tables e below (T19.setTop (mkF m 143 #[.val (.int p0), .val (.int p1), .val (.int p2), .val (.int p3), .val (.int p4), .val (.int nv), .val (.int mv), .val (.int (1 : Int32)), .val (.int sv), .val (.int tv), .val (.ref b3), .val (.ref b4), .val (.ref b7), .val (.int (0 : Int32)), .val (.int (0 : Int32))] [(.int (1 : Int32))])) _
    refine XS.goto X19.here hx rfl (pc0 := 143) (pc' := 147) rfl (hb hby at_143) (by decide) (by decide) ?_
    exact retN X19 hx (t := .boolean) Bd.returns (by simp) (hb hby at_147) hr
  · show Q0 n0 _ T19.heap _
    rw [e19]
    exact ⟨rfl, N19⟩
theorem own_four (p : Int32) : (p &&& (3 : Int32)) = (0 : Int32) ∨ (p &&& (3 : Int32)) = (1 : Int32) ∨ (p &&& (3 : Int32)) = (2 : Int32) ∨ (p &&& (3 : Int32)) = (3 : Int32) := by
  have a := c_and p (3 : Int32) (by decide)
  rw [show (3 : Int32).toInt = 3 by decide] at a
  have : (p &&& (3 : Int32)).toInt = 0 ∨ (p &&& (3 : Int32)).toInt = 1 ∨ (p &&& (3 : Int32)).toInt = 2 ∨ (p &&& (3 : Int32)).toInt = 3 := by omega
  rcases this with h | h | h | h
  · exact Or.inl (Int32.toInt_inj.mp (by rw [h]; decide))
  · exact Or.inr (Or.inl (Int32.toInt_inj.mp (by rw [h]; decide)))
  · exact Or.inr (Or.inr (Or.inl (Int32.toInt_inj.mp (by rw [h]; decide))))
  · exact Or.inr (Or.inr (Or.inr (Int32.toInt_inj.mp (by rw [h]; decide))))
theorem own_law (l : Launch) (Z : State) (a0 : Array Value) (hw : ∀ d ∈ tables_1, d.before a0 Z = true) (ws : List Jvm.Cond) (p0 : Int32) (p1 : Int32) (p2 : Int32) (p3 : Int32) (p4 : Int32) (h0 : Heap) (n0 : Nat) (Z0 : n0 ≤ h0.size) :
    MetFree l x (head1 (Jvm.Cond.code x code maxLocals ret :: ws) room_1) (fun a U => a = #[(.int p0), (.int p1), (.int p2), (.int p3), (.int p4)] ∧ Z.Warmed39 U.vm ∧ U.heap = h0) (fun _ _ _ _ _ => True) (fun _ U o U' => ∃ v L, o = .returned v ∧ Q0 n0 v U'.heap L ∧ ReturnedEndW U o U' L room_1.cells room_1.slots) := by
  obtain ⟨nv, env⟩ : ∃ z, (p0 &&& (3 : Int32)) = z := ⟨_, rfl⟩
  obtain ⟨mv, emv⟩ : ∃ z, (p1 &&& (3 : Int32)) = z := ⟨_, rfl⟩
  obtain ⟨sv, esv⟩ : ∃ z, (if (p2 &&& (2 : Int32)) = (0 : Int32) then p3 else nv) = z := ⟨_, rfl⟩
  obtain ⟨tv, etv⟩ : ∃ z, (if (p2 &&& (4 : Int32)) = (0 : Int32) then p4 else mv) = z := ⟨_, rfl⟩
  have fn := own_four p0
  have fm := own_four p1
  rw [env] at fn
  rw [emv] at fm
  have hn1 : ¬ nv < 0 := by rcases fn with h | h | h | h <;> rw [h] <;> decide
  have hn2 : nv.toNatClampNeg ≤ 3 := by rcases fn with h | h | h | h <;> rw [h] <;> decide
  have hm1 : ¬ mv < 0 := by rcases fm with h | h | h | h <;> rw [h] <;> decide
  have hm2 : mv.toNatClampNeg ≤ 3 := by rcases fm with h | h | h | h <;> rw [h] <;> decide
  have hN : ((¬ ((0 : Int32) < nv))) ∨ (((0 : Int32) < nv) ∧ (¬ (0 : Int32) < 0 ∧ (0 : Int32) < nv) ∧ (¬ ((1 : Int32) < nv))) ∨ (((0 : Int32) < nv) ∧ (¬ (0 : Int32) < 0 ∧ (0 : Int32) < nv) ∧ ((1 : Int32) < nv) ∧ (¬ (1 : Int32) < 0 ∧ (1 : Int32) < nv) ∧ (¬ ((2 : Int32) < nv))) ∨ (((0 : Int32) < nv) ∧ (¬ (0 : Int32) < 0 ∧ (0 : Int32) < nv) ∧ ((1 : Int32) < nv) ∧ (¬ (1 : Int32) < 0 ∧ (1 : Int32) < nv) ∧ ((2 : Int32) < nv) ∧ (¬ (2 : Int32) < 0 ∧ (2 : Int32) < nv) ∧ (¬ ((3 : Int32) < nv))) := by
    rcases fn with h | h | h | h <;> rw [h] <;> decide
  have hY : ((¬ ((0 : Int32) < nv)) ∧ (¬ ((0 : Int32) < mv))) ∨ ((¬ ((0 : Int32) < nv)) ∧ ((0 : Int32) < mv) ∧ (¬ (0 : Int32) < 0 ∧ (0 : Int32) < mv) ∧ (¬ ((1 : Int32) < mv))) ∨ ((¬ ((0 : Int32) < nv)) ∧ ((0 : Int32) < mv) ∧ (¬ (0 : Int32) < 0 ∧ (0 : Int32) < mv) ∧ ((1 : Int32) < mv) ∧ (¬ (1 : Int32) < 0 ∧ (1 : Int32) < mv) ∧ (¬ ((2 : Int32) < mv))) ∨ ((¬ ((0 : Int32) < nv)) ∧ ((0 : Int32) < mv) ∧ (¬ (0 : Int32) < 0 ∧ (0 : Int32) < mv) ∧ ((1 : Int32) < mv) ∧ (¬ (1 : Int32) < 0 ∧ (1 : Int32) < mv) ∧ ((2 : Int32) < mv) ∧ (¬ (2 : Int32) < 0 ∧ (2 : Int32) < mv) ∧ (¬ ((3 : Int32) < mv))) ∨ (((0 : Int32) < nv) ∧ (¬ (0 : Int32) < 0 ∧ (0 : Int32) < nv) ∧ (¬ ((1 : Int32) < nv)) ∧ (¬ ((0 : Int32) < mv))) ∨ (((0 : Int32) < nv) ∧ (¬ (0 : Int32) < 0 ∧ (0 : Int32) < nv) ∧ (¬ ((1 : Int32) < nv)) ∧ ((0 : Int32) < mv) ∧ (¬ (0 : Int32) < 0 ∧ (0 : Int32) < mv) ∧ (¬ ((1 : Int32) < mv))) ∨ (((0 : Int32) < nv) ∧ (¬ (0 : Int32) < 0 ∧ (0 : Int32) < nv) ∧ (¬ ((1 : Int32) < nv)) ∧ ((0 : Int32) < mv) ∧ (¬ (0 : Int32) < 0 ∧ (0 : Int32) < mv) ∧ ((1 : Int32) < mv) ∧ (¬ (1 : Int32) < 0 ∧ (1 : Int32) < mv) ∧ (¬ ((2 : Int32) < mv))) ∨ (((0 : Int32) < nv) ∧ (¬ (0 : Int32) < 0 ∧ (0 : Int32) < nv) ∧ (¬ ((1 : Int32) < nv)) ∧ ((0 : Int32) < mv) ∧ (¬ (0 : Int32) < 0 ∧ (0 : Int32) < mv) ∧ ((1 : Int32) < mv) ∧ (¬ (1 : Int32) < 0 ∧ (1 : Int32) < mv) ∧ ((2 : Int32) < mv) ∧ (¬ (2 : Int32) < 0 ∧ (2 : Int32) < mv) ∧ (¬ ((3 : Int32) < mv))) ∨ (((0 : Int32) < nv) ∧ (¬ (0 : Int32) < 0 ∧ (0 : Int32) < nv) ∧ ((1 : Int32) < nv) ∧ (¬ (1 : Int32) < 0 ∧ (1 : Int32) < nv) ∧ (¬ ((2 : Int32) < nv)) ∧ (¬ ((0 : Int32) < mv))) ∨ (((0 : Int32) < nv) ∧ (¬ (0 : Int32) < 0 ∧ (0 : Int32) < nv) ∧ ((1 : Int32) < nv) ∧ (¬ (1 : Int32) < 0 ∧ (1 : Int32) < nv) ∧ (¬ ((2 : Int32) < nv)) ∧ ((0 : Int32) < mv) ∧ (¬ (0 : Int32) < 0 ∧ (0 : Int32) < mv) ∧ (¬ ((1 : Int32) < mv))) ∨ (((0 : Int32) < nv) ∧ (¬ (0 : Int32) < 0 ∧ (0 : Int32) < nv) ∧ ((1 : Int32) < nv) ∧ (¬ (1 : Int32) < 0 ∧ (1 : Int32) < nv) ∧ (¬ ((2 : Int32) < nv)) ∧ ((0 : Int32) < mv) ∧ (¬ (0 : Int32) < 0 ∧ (0 : Int32) < mv) ∧ ((1 : Int32) < mv) ∧ (¬ (1 : Int32) < 0 ∧ (1 : Int32) < mv) ∧ (¬ ((2 : Int32) < mv))) ∨ (((0 : Int32) < nv) ∧ (¬ (0 : Int32) < 0 ∧ (0 : Int32) < nv) ∧ ((1 : Int32) < nv) ∧ (¬ (1 : Int32) < 0 ∧ (1 : Int32) < nv) ∧ (¬ ((2 : Int32) < nv)) ∧ ((0 : Int32) < mv) ∧ (¬ (0 : Int32) < 0 ∧ (0 : Int32) < mv) ∧ ((1 : Int32) < mv) ∧ (¬ (1 : Int32) < 0 ∧ (1 : Int32) < mv) ∧ ((2 : Int32) < mv) ∧ (¬ (2 : Int32) < 0 ∧ (2 : Int32) < mv) ∧ (¬ ((3 : Int32) < mv))) ∨ (((0 : Int32) < nv) ∧ (¬ (0 : Int32) < 0 ∧ (0 : Int32) < nv) ∧ ((1 : Int32) < nv) ∧ (¬ (1 : Int32) < 0 ∧ (1 : Int32) < nv) ∧ ((2 : Int32) < nv) ∧ (¬ (2 : Int32) < 0 ∧ (2 : Int32) < nv) ∧ (¬ ((3 : Int32) < nv)) ∧ (¬ ((0 : Int32) < mv))) ∨ (((0 : Int32) < nv) ∧ (¬ (0 : Int32) < 0 ∧ (0 : Int32) < nv) ∧ ((1 : Int32) < nv) ∧ (¬ (1 : Int32) < 0 ∧ (1 : Int32) < nv) ∧ ((2 : Int32) < nv) ∧ (¬ (2 : Int32) < 0 ∧ (2 : Int32) < nv) ∧ (¬ ((3 : Int32) < nv)) ∧ ((0 : Int32) < mv) ∧ (¬ (0 : Int32) < 0 ∧ (0 : Int32) < mv) ∧ (¬ ((1 : Int32) < mv))) ∨ (((0 : Int32) < nv) ∧ (¬ (0 : Int32) < 0 ∧ (0 : Int32) < nv) ∧ ((1 : Int32) < nv) ∧ (¬ (1 : Int32) < 0 ∧ (1 : Int32) < nv) ∧ ((2 : Int32) < nv) ∧ (¬ (2 : Int32) < 0 ∧ (2 : Int32) < nv) ∧ (¬ ((3 : Int32) < nv)) ∧ ((0 : Int32) < mv) ∧ (¬ (0 : Int32) < 0 ∧ (0 : Int32) < mv) ∧ ((1 : Int32) < mv) ∧ (¬ (1 : Int32) < 0 ∧ (1 : Int32) < mv) ∧ (¬ ((2 : Int32) < mv))) ∨ (((0 : Int32) < nv) ∧ (¬ (0 : Int32) < 0 ∧ (0 : Int32) < nv) ∧ ((1 : Int32) < nv) ∧ (¬ (1 : Int32) < 0 ∧ (1 : Int32) < nv) ∧ ((2 : Int32) < nv) ∧ (¬ (2 : Int32) < 0 ∧ (2 : Int32) < nv) ∧ (¬ ((3 : Int32) < nv)) ∧ ((0 : Int32) < mv) ∧ (¬ (0 : Int32) < 0 ∧ (0 : Int32) < mv) ∧ ((1 : Int32) < mv) ∧ (¬ (1 : Int32) < 0 ∧ (1 : Int32) < mv) ∧ ((2 : Int32) < mv) ∧ (¬ (2 : Int32) < 0 ∧ (2 : Int32) < mv) ∧ (¬ ((3 : Int32) < mv))) := by
    rcases fn with h | h | h | h
    · rcases fm with g | g | g | g <;> rw [h, g]
      · exact Or.inl ⟨by decide, by decide⟩
      · exact Or.inr (Or.inl ⟨by decide, by decide, by decide, by decide⟩)
      · exact Or.inr (Or.inr (Or.inl ⟨by decide, by decide, by decide, by decide, by decide, by decide⟩))
      · exact Or.inr (Or.inr (Or.inr (Or.inl ⟨by decide, by decide, by decide, by decide, by decide, by decide, by decide, by decide⟩)))
    · rcases fm with g | g | g | g <;> rw [h, g]
      · exact Or.inr (Or.inr (Or.inr (Or.inr (Or.inl ⟨by decide, by decide, by decide, by decide⟩))))
      · exact Or.inr (Or.inr (Or.inr (Or.inr (Or.inr (Or.inl ⟨by decide, by decide, by decide, by decide, by decide, by decide⟩)))))
      · exact Or.inr (Or.inr (Or.inr (Or.inr (Or.inr (Or.inr (Or.inl ⟨by decide, by decide, by decide, by decide, by decide, by decide, by decide, by decide⟩))))))
      · exact Or.inr (Or.inr (Or.inr (Or.inr (Or.inr (Or.inr (Or.inr (Or.inl ⟨by decide, by decide, by decide, by decide, by decide, by decide, by decide, by decide, by decide, by decide⟩)))))))
    · rcases fm with g | g | g | g <;> rw [h, g]
      · exact Or.inr (Or.inr (Or.inr (Or.inr (Or.inr (Or.inr (Or.inr (Or.inr (Or.inl ⟨by decide, by decide, by decide, by decide, by decide, by decide⟩))))))))
      · exact Or.inr (Or.inr (Or.inr (Or.inr (Or.inr (Or.inr (Or.inr (Or.inr (Or.inr (Or.inl ⟨by decide, by decide, by decide, by decide, by decide, by decide, by decide, by decide⟩)))))))))
      · exact Or.inr (Or.inr (Or.inr (Or.inr (Or.inr (Or.inr (Or.inr (Or.inr (Or.inr (Or.inr (Or.inl ⟨by decide, by decide, by decide, by decide, by decide, by decide, by decide, by decide, by decide, by decide⟩))))))))))
      · exact Or.inr (Or.inr (Or.inr (Or.inr (Or.inr (Or.inr (Or.inr (Or.inr (Or.inr (Or.inr (Or.inr (Or.inl ⟨by decide, by decide, by decide, by decide, by decide, by decide, by decide, by decide, by decide, by decide, by decide, by decide⟩)))))))))))
    · rcases fm with g | g | g | g <;> rw [h, g]
      · exact Or.inr (Or.inr (Or.inr (Or.inr (Or.inr (Or.inr (Or.inr (Or.inr (Or.inr (Or.inr (Or.inr (Or.inr (Or.inl ⟨by decide, by decide, by decide, by decide, by decide, by decide, by decide, by decide⟩))))))))))))
      · exact Or.inr (Or.inr (Or.inr (Or.inr (Or.inr (Or.inr (Or.inr (Or.inr (Or.inr (Or.inr (Or.inr (Or.inr (Or.inr (Or.inl ⟨by decide, by decide, by decide, by decide, by decide, by decide, by decide, by decide, by decide, by decide⟩)))))))))))))
      · exact Or.inr (Or.inr (Or.inr (Or.inr (Or.inr (Or.inr (Or.inr (Or.inr (Or.inr (Or.inr (Or.inr (Or.inr (Or.inr (Or.inr (Or.inl ⟨by decide, by decide, by decide, by decide, by decide, by decide, by decide, by decide, by decide, by decide, by decide, by decide⟩))))))))))))))
      · exact Or.inr (Or.inr (Or.inr (Or.inr (Or.inr (Or.inr (Or.inr (Or.inr (Or.inr (Or.inr (Or.inr (Or.inr (Or.inr (Or.inr (Or.inr (⟨by decide, by decide, by decide, by decide, by decide, by decide, by decide, by decide, by decide, by decide, by decide, by decide, by decide, by decide⟩)))))))))))))))
  by_cases hf : (p2 &&& (1 : Int32)) = (0 : Int32)
  · by_cases hs : sv = nv
    · exact rm0Na l Z a0 hw ws p0 p1 p2 p3 p4 nv mv sv tv h0 n0 Z0 (hn1 := hn1) (hn2 := hn2) (hv2 := env) (hv7 := emv) (hc13 := hf) (hj_sv := esv) (hj_tv := etv) (hcase_81 := hN) (hc6_92 := hs.symm) (hc101 := hs)
    · exact rm0Nb l Z a0 hw ws p0 p1 p2 p3 p4 nv mv sv tv h0 n0 Z0 (hn1 := hn1) (hn2 := hn2) (hv2 := env) (hv7 := emv) (hc13 := hf) (hj_sv := esv) (hj_tv := etv) (hcase_81 := hN) (hc6_92 := fun q => hs q.symm) (hc101 := hs)
  · by_cases hs : sv = nv
    · by_cases ht : tv = mv
      · exact rm0Yb l Z a0 hw ws p0 p1 p2 p3 p4 nv mv sv tv h0 n0 Z0 (hn1 := hn1) (hn2 := hn2) (hm1 := hm1) (hm2 := hm2) (hv2 := env) (hv7 := emv) (hc13 := hf) (hj_sv := esv) (hj_tv := etv) (hcase_81 := hY) (hc6_92 := hs.symm) (hc22_92 := ht.symm) (hc101 := hs) (hc125 := ht)
      · exact rm0Yc l Z a0 hw ws p0 p1 p2 p3 p4 nv mv sv tv h0 n0 Z0 (hn1 := hn1) (hn2 := hn2) (hm1 := hm1) (hm2 := hm2) (hv2 := env) (hv7 := emv) (hc13 := hf) (hj_sv := esv) (hj_tv := etv) (hcase_81 := hY) (hc6_92 := hs.symm) (hc22_92 := fun q => ht q.symm) (hc101 := hs) (hc125 := ht)
    · exact rm0Ya l Z a0 hw ws p0 p1 p2 p3 p4 nv mv sv tv h0 n0 Z0 (hn1 := hn1) (hn2 := hn2) (hm1 := hm1) (hm2 := hm2) (hv2 := env) (hv7 := emv) (hc13 := hf) (hj_sv := esv) (hj_tv := etv) (hcase_81 := hY) (hc6_92 := fun q => hs q.symm) (hc101 := hs)
set_option maxRecDepth 65536 in
set_option maxHeartbeats 40000000 in
theorem comes_1 {Post : Tables → Env → Array Value → State → Outcome → State → Prop} (hpost : ∀ tb e args s v u, (limb_1_1.after args s (.returned v) u = true ∧ limb_1_2.after args s (.returned v) u = true ∧ True) → ReturnedEndW s (.returned v) u (Jvm.fieldLocs frame_1_writes args s ++ Jvm.arrayLocs frame_1_arrays args s ++ Jvm.staticLocs frame_1_statics s) 16 1152 → Post tb e args s (.returned v) u) :
    ArmFor flags0 classFile x code maxLocals ret World_1 tables_1 room_1 Calls_1 rest_1 Pre_1 Post := by
  intro l hfl _ _ p e ha hc hk s m args below hf hA hF happ hP
  obtain ⟨hcalls, hrest, hpre⟩ := hP
  obtain ⟨-, -, -, hnamed, -, -, -, hat⟩ := (Spec.applies_iff hf).mp happ
  obtain ⟨hg, hn⟩ := and_e (Cond.before_iff.mp (show (Jvm.Cond.and given_1 narrow_1).before args s = true from hpre))
  obtain ⟨g1, g2⟩ := and_e hg
  obtain ⟨g3, g4⟩ := and_e g2
  obtain ⟨g5, g6⟩ := and_e g4
  obtain ⟨g7, g8⟩ := and_e g6
  obtain ⟨g9, g10⟩ := and_e g8
  obtain ⟨w0, w1, w2, w3, w4, rfl⟩ : ∃ w0 w1 w2 w3 w4 : Value, args = #[w0, w1, w2, w3, w4] := by
    have hs : args.size = 5 := by simpa [Cond.value, given_1] using g1
    obtain ⟨L⟩ := args
    match L, hs with
    | [w0, w1, w2, w3, w4], _ => exact ⟨w0, w1, w2, w3, w4, rfl⟩
  have hw := fun d (hd : d ∈ tables_1) => atoms_spec (ws := Jvm.Cond.code x code maxLocals ret :: tables_1) hat d (List.mem_cons_of_mem _ hd)
  have hfit : Fit s := fun {y c} hc i hi => by
    obtain ⟨ha, rfl⟩ := Array.getElem?_eq_some_iff.mp hc
    have q := List.all_eq_true.mp ((Array.all_eq_true_iff_forall_mem.mp hF) _ (Array.getElem_mem ha)) i (List.mem_range.mpr hi)
    simpa [Array.getElem?_eq_getElem hi] using q
  obtain ⟨i0, ei0⟩ := is_v g3
  obtain rfl : w0 = (.int i0) := Option.some.inj ei0
  obtain ⟨i1, ei1⟩ := is_v g5
  obtain rfl : w1 = (.int i1) := Option.some.inj ei1
  obtain ⟨i2, ei2⟩ := is_v g7
  obtain rfl : w2 = (.int i2) := Option.some.inj ei2
  obtain ⟨i3, ei3⟩ := is_v g9
  obtain rfl : w3 = (.int i3) := Option.some.inj ei3
  obtain ⟨i4, ei4⟩ := is_v g10
  obtain rfl : w4 = (.int i4) := Option.some.inj ei4
  obtain ⟨n, o, h1, h2, h3, _, L, rfl, ⟨rfl, N⟩, hq⟩ := own_law l s _ hw tables_1 i0 i1 i2 i3 i4 s.heap s.heap.size (Nat.le_refl _)  p e ha hc hk s m _ below hf ((Spec.applies_iff_loose hf).mp happ).1 ⟨rfl, State.Warmed39.refl s, rfl⟩ trivial
  refine ⟨n, _, h1, h2, h3, hpost _ _ _ _ _ _ ⟨Cond.after_iff.mpr rfl, Cond.after_iff.mpr (eq_i res_at (Term.int_eval (1)) rfl), trivial⟩ ⟨hq.1, hq.2.1, hq.2.2.1, (hq.2.2.2.sift fun y hy => Or.inr (N y hy)).mono (by decide) (by decide)⟩⟩
theorem main_1_1 : Claimed_1_1 := comes_1 fun _ _ _ _ _ _ h hF => ⟨h.1, hF⟩
theorem main_1_2 : Claimed_1_2 := comes_1 fun _ _ _ _ _ _ h hF => ⟨h.2.1, hF⟩
end Jvm.Pilot.@@N@@
namespace Jvm.Pilot.@@N@@
open Jvm Jvm.ClassFile Sem Op Lib Jvm.Free Jvm.Stand Jvm.Pilot.@@N@@.Jvm.D
/-! MADE BY PROGRAM (witnessworld.py) out of the Statement's table words and the real class files: 17 classes; the members and pool entries that the words name. The judged class is class 1, her method 1. -/
namespace start1
open Jvm.ClassFile
def u (s : String) : CpInfo := .utf8 (stringToUtf16 s)
/-- a pool by its gaps: so many unusable entries, then the entry; so many at the end -/
def gap : Nat → List CpInfo → List CpInfo
  | 0, r => r
  | n + 1, r => .unusable :: gap n r
def poolList (es : List (Nat × CpInfo)) (last : Nat) : List CpInfo := es.foldr (fun e r => gap e.1 (e.2 :: r)) (gap last [])
def pool (es : List (Nat × CpInfo)) (last : Nat) : Array CpInfo := ⟨poolList es last⟩
def fileOf (pool : Array CpInfo) (this : Nat) (attrs : Array Attribute := #[]) (ms : Array MethodInfo := #[]) (fl : Nat := 33) (sup : Nat := 0) (ifs : Array Nat := #[]) (fds : Array FieldInfo := #[]) : ClassFile where
  minorVersion := 0
  majorVersion := 65
  constantPool := pool
  accessFlags := fl
  thisClass := this
  superClass := sup
  interfaces := ifs
  fields := fds
  methods := ms
  attributes := attrs
def plain (name : String) (sup : Option ClassId) : Class where
  name := name
  kind := .ordinary
  loader := none
  accessFlags := 33
  super := sup
  interfaces := #[]
  cf := none
  fields := #[]
  methods := #[]
  instanceTypes := #[]
  staticTypes := #[]
  resolved := #[]
  callSites := []
  init := .initialized
  statics := none
  mirror := none

def pool0 : Array CpInfo := pool [(5, u "<init>"), (0, u "()V"), (1, .class_ 10), (1, u "java/lang/Object")] 113

def k0c0 : Code := { maxStack := 0, maxLocals := 1, code := object_method_1_code, exceptionTable := #[], attributes := #[] }
def k0m0 : Method := { name := "<init>", desc := "()V", sig := { parameters := [], returnType := none }, accessFlags := 1, code := some k0c0 }
/-- java/lang/Object -/
def k0 : Class := { plain "java/lang/Object" none with
  accessFlags := 33
  interfaces := #[]
  cf := some (fileOf pool0 8 #[] #[{ accessFlags := 1, nameIndex := 5, descriptorIndex := 6, attributes := #[] }] 33 0 #[] #[])
  fields := #[]
  methods := #[k0m0]
  instanceTypes := #[]
  staticTypes := #[]
  resolved := Array.replicate 124 none
  statics := none }

def pool1 : Array CpInfo := pool [(2, .class_ 4), (1, u "java/lang/Object"), (0, u "<init>"), (0, u "()V"), (0, .class_ 8), (0, u "com/example/hedge/hedge/RewardStructure"), (0, .methodref 7 10), (0, .nameAndType 5 11), (0, u "([D[D)V"), (0, .methodref 7 13), (0, .nameAndType 14 15), (0, u "fits"), (0, u "(II)Z"), (0, .class_ 17), (0, u "com/example/hedge/hedge/RewardStructureFitsPinLaw"), (2, u "law"), (0, u "(IIIII)Z")] 5

def k1m0 : Method := { name := "<init>", desc := "()V", sig := { parameters := [], returnType := none }, accessFlags := 1, code := none }
def k1c1 : Code := { maxStack := 4, maxLocals := 15, code := code, exceptionTable := #[], attributes := #[] }
def k1m1 : Method := { name := "law", desc := "(IIIII)Z", sig := { parameters := [.int, .int, .int, .int, .int], returnType := some .boolean }, accessFlags := 9, code := some k1c1 }
/-- com/example/hedge/hedge/RewardStructureFitsPinLaw -/
def k1 : Class := { plain "com/example/hedge/hedge/RewardStructureFitsPinLaw" (some 0) with
  accessFlags := 49
  interfaces := #[]
  cf := some (fileOf pool1 16 #[] #[{ accessFlags := 1, nameIndex := 5, descriptorIndex := 6, attributes := #[] }, { accessFlags := 9, nameIndex := 20, descriptorIndex := 21, attributes := #[] }] 49 2 #[] #[])
  fields := #[]
  methods := #[k1m0, k1m1]
  instanceTypes := #[]
  staticTypes := #[]
  resolved := Array.replicate 27 none
  statics := none }

def pool2 : Array CpInfo := pool [(1, .methodref 2 3), (0, .class_ 4), (0, .nameAndType 5 6), (0, u "java/lang/Object"), (0, u "<init>"), (0, u "()V"), (0, .string 8), (0, u "state"), (0, .methodref 10 11), (0, .class_ 12), (0, .nameAndType 13 14), (0, u "java/util/Objects"), (0, u "requireNonNull"), (0, u "(Ljava/lang/Object;Ljava/lang/String;)Ljava/lang/Object;"), (0, .class_ 16), (0, u "[D"), (0, .fieldref 18 19), (0, .class_ 20), (0, .nameAndType 8 16), (0, u "com/example/hedge/hedge/RewardStructure"), (0, .fieldref 18 22), (0, .nameAndType 23 16), (0, u "transition"), (0, .methodref 18 25), (0, .nameAndType 26 27), (0, u "checkReward"), (0, u "(D)D"), (2, .double 9218868437227405312), (12, u "([D[D)V"), (6, u "fits"), (0, u "(II)Z")] 19

def k2c0 : Code := { maxStack := 3, maxLocals := 8, code := prog_30_method_1_code, exceptionTable := #[], attributes := #[] }
def k2m0 : Method := { name := "<init>", desc := "([D[D)V", sig := { parameters := [(.array .double), (.array .double)], returnType := none }, accessFlags := 1, code := some k2c0 }
def k2c1 : Code := { maxStack := 4, maxLocals := 2, code := prog_30_method_2_code, exceptionTable := #[], attributes := #[] }
def k2m1 : Method := { name := "checkReward", desc := "(D)D", sig := { parameters := [.double], returnType := some .double }, accessFlags := 9, code := some k2c1 }
def k2c2 : Code := { maxStack := 2, maxLocals := 3, code := prog_30_method_6_code, exceptionTable := #[], attributes := #[] }
def k2m2 : Method := { name := "fits", desc := "(II)Z", sig := { parameters := [.int, .int], returnType := some .boolean }, accessFlags := 0, code := some k2c2 }
/-- com/example/hedge/hedge/RewardStructure -/
def k2 : Class := { plain "com/example/hedge/hedge/RewardStructure" (some 0) with
  accessFlags := 49
  interfaces := #[]
  cf := some (fileOf pool2 18 #[] #[{ accessFlags := 1, nameIndex := 5, descriptorIndex := 43, attributes := #[] }, { accessFlags := 9, nameIndex := 26, descriptorIndex := 27, attributes := #[] }, { accessFlags := 0, nameIndex := 50, descriptorIndex := 51, attributes := #[] }] 49 2 #[] #[{ accessFlags := 18, nameIndex := 8, descriptorIndex := 16, attributes := #[] }, { accessFlags := 18, nameIndex := 23, descriptorIndex := 16, attributes := #[] }])
  fields := #[{ name := "state", type := (.array .double), accessFlags := 18, slot := 0, constantValue := 0 }, { name := "transition", type := (.array .double), accessFlags := 18, slot := 1, constantValue := 0 }]
  methods := #[k2m0, k2m1, k2m2]
  instanceTypes := #[(.array .double), (.array .double)]
  staticTypes := #[]
  resolved := Array.replicate 71 none
  statics := none }

def pool3 : Array CpInfo := pool [(1, .class_ 2), (0, u "java/io/Serializable"), (0, .class_ 4), (0, u "java/lang/Object")] 2

/-- java/io/Serializable -/
def k3 : Class := { plain "java/io/Serializable" (some 0) with
  accessFlags := 1537
  interfaces := #[]
  cf := some (fileOf pool3 1 #[] #[] 1537 3 #[] #[])
  fields := #[]
  methods := #[]
  instanceTypes := #[]
  staticTypes := #[]
  resolved := Array.replicate 7 none
  statics := none }

def pool4 : Array CpInfo := pool [(1, .class_ 2), (0, u "java/lang/Comparable"), (0, .class_ 4), (0, u "java/lang/Object")] 7

/-- java/lang/Comparable -/
def k4 : Class := { plain "java/lang/Comparable" (some 0) with
  accessFlags := 1537
  interfaces := #[]
  cf := some (fileOf pool4 1 #[] #[] 1537 3 #[] #[])
  fields := #[]
  methods := #[]
  instanceTypes := #[]
  staticTypes := #[]
  resolved := Array.replicate 12 none
  statics := none }

def pool5 : Array CpInfo := pool [(2, .class_ 4), (1, u "java/lang/CharSequence"), (42, .class_ 48), (0, u "java/lang/CharSequence$1CodePointIterator"), (10, .class_ 60), (0, u "java/lang/CharSequence$1CharIterator"), (5, .class_ 67), (0, u "java/lang/Object")] 63

/-- java/lang/CharSequence -/
def k5 : Class := { plain "java/lang/CharSequence" (some 0) with
  accessFlags := 1537
  interfaces := #[]
  cf := some (fileOf pool5 2 #[.nestMembers #[47, 59]] #[] 1537 66 #[] #[])
  fields := #[]
  methods := #[]
  instanceTypes := #[]
  staticTypes := #[]
  resolved := Array.replicate 131 none
  statics := none }

def pool6 : Array CpInfo := pool [(1, .class_ 2), (0, u "java/lang/constant/Constable"), (0, .class_ 4), (0, u "java/lang/Object")] 6

/-- java/lang/constant/Constable -/
def k6 : Class := { plain "java/lang/constant/Constable" (some 0) with
  accessFlags := 1537
  interfaces := #[]
  cf := some (fileOf pool6 1 #[] #[] 1537 3 #[] #[])
  fields := #[]
  methods := #[]
  instanceTypes := #[]
  staticTypes := #[]
  resolved := Array.replicate 11 none
  statics := none }

def pool7 : Array CpInfo := pool [(1, .class_ 2), (0, u "java/lang/constant/ConstantDesc"), (0, .class_ 4), (0, u "java/lang/Object")] 32

/-- java/lang/constant/ConstantDesc -/
def k7 : Class := { plain "java/lang/constant/ConstantDesc" (some 0) with
  accessFlags := 1537
  interfaces := #[]
  cf := some (fileOf pool7 1 #[] #[] 1537 3 #[] #[])
  fields := #[]
  methods := #[]
  instanceTypes := #[]
  staticTypes := #[]
  resolved := Array.replicate 37 none
  statics := none }

def pool8 : Array CpInfo := pool [(2, .class_ 4), (1, u "java/lang/Object"), (0, u "<init>"), (0, u "()V"), (3, .class_ 12), (1, u "java/lang/String"), (0, u "value"), (0, u "[B"), (2, u "coder"), (0, u "B"), (2, u "hash"), (0, u "I"), (2, u "hashIsZero"), (0, u "Z"), (13, u "COMPACT_STRINGS"), (534, .class_ 576), (0, u "java/lang/CharSequence"), (22, u "CASE_INSENSITIVE_ORDER"), (0, u "Ljava/util/Comparator;"), (500, u "serialPersistentFields"), (0, u "[Ljava/io/ObjectStreamField;"), (0, .class_ 1104), (0, u "java/lang/String$CaseInsensitiveComparator"), (1, .class_ 1107), (0, u "java/io/Serializable"), (0, .class_ 1109), (0, u "java/lang/Comparable"), (0, .class_ 1111), (0, u "java/lang/constant/Constable"), (0, .class_ 1113), (0, u "java/lang/constant/ConstantDesc"), (2, u "serialVersionUID"), (0, u "J"), (3, u "REPL"), (0, u "C"), (2, u "LATIN1"), (1, u "UTF16")] 323

def k8m0 : Method := { name := "<init>", desc := "()V", sig := { parameters := [], returnType := none }, accessFlags := 1, code := none }
/-- java/lang/String -/
def k8 : Class := { plain "java/lang/String" (some 0) with
  accessFlags := 49
  interfaces := #[3, 4, 5, 6, 7]
  cf := some (fileOf pool8 10 #[.nestMembers #[1103]] #[{ accessFlags := 1, nameIndex := 5, descriptorIndex := 6, attributes := #[] }] 49 2 #[1106, 1108, 575, 1110, 1112] #[{ accessFlags := 18, nameIndex := 13, descriptorIndex := 14, attributes := #[] }, { accessFlags := 18, nameIndex := 17, descriptorIndex := 18, attributes := #[] }, { accessFlags := 2, nameIndex := 21, descriptorIndex := 22, attributes := #[] }, { accessFlags := 2, nameIndex := 25, descriptorIndex := 26, attributes := #[] }, { accessFlags := 26, nameIndex := 1116, descriptorIndex := 1117, attributes := #[] }, { accessFlags := 24, nameIndex := 40, descriptorIndex := 26, attributes := #[] }, { accessFlags := 26, nameIndex := 1101, descriptorIndex := 1102, attributes := #[] }, { accessFlags := 26, nameIndex := 1121, descriptorIndex := 1122, attributes := #[] }, { accessFlags := 25, nameIndex := 599, descriptorIndex := 600, attributes := #[] }, { accessFlags := 24, nameIndex := 1125, descriptorIndex := 18, attributes := #[] }, { accessFlags := 24, nameIndex := 1127, descriptorIndex := 18, attributes := #[] }])
  fields := #[{ name := "value", type := (.array .byte), accessFlags := 18, slot := 0, constantValue := 0 }, { name := "coder", type := .byte, accessFlags := 18, slot := 1, constantValue := 0 }, { name := "hash", type := .int, accessFlags := 2, slot := 2, constantValue := 0 }, { name := "hashIsZero", type := .boolean, accessFlags := 2, slot := 3, constantValue := 0 }, { name := "serialVersionUID", type := .long, accessFlags := 26, slot := 0, constantValue := 0 }, { name := "COMPACT_STRINGS", type := .boolean, accessFlags := 24, slot := 1, constantValue := 0 }, { name := "serialPersistentFields", type := (.array (.object "java/io/ObjectStreamField")), accessFlags := 26, slot := 2, constantValue := 0 }, { name := "REPL", type := .char, accessFlags := 26, slot := 3, constantValue := 0 }, { name := "CASE_INSENSITIVE_ORDER", type := (.object "java/util/Comparator"), accessFlags := 25, slot := 4, constantValue := 0 }, { name := "LATIN1", type := .byte, accessFlags := 24, slot := 5, constantValue := 0 }, { name := "UTF16", type := .byte, accessFlags := 24, slot := 6, constantValue := 0 }]
  methods := #[k8m0]
  instanceTypes := #[(.array .byte), .byte, .int, .boolean]
  staticTypes := #[.long, .boolean, (.array (.object "java/io/ObjectStreamField")), .char, (.object "java/util/Comparator"), .byte, .byte]
  resolved := Array.replicate 1451 none
  statics := none }

def pool9 : Array CpInfo := pool [(2, .class_ 4), (1, u "java/lang/Object"), (0, u "<init>"), (0, u "()V"), (35, .class_ 44), (1, u "java/util/Objects"), (0, u "requireNonNull"), (48, u "(Ljava/lang/Object;Ljava/lang/String;)Ljava/lang/Object;")] 89

def k9m0 : Method := { name := "<init>", desc := "()V", sig := { parameters := [], returnType := none }, accessFlags := 2, code := none }
def k9c1 : Code := { maxStack := 3, maxLocals := 2, code := jdk_31_method_11_code, exceptionTable := #[], attributes := #[] }
def k9m1 : Method := { name := "requireNonNull", desc := "(Ljava/lang/Object;Ljava/lang/String;)Ljava/lang/Object;", sig := { parameters := [(.object "java/lang/Object"), (.object "java/lang/String")], returnType := some (.object "java/lang/Object") }, accessFlags := 9, code := some k9c1 }
/-- java/util/Objects -/
def k9 : Class := { plain "java/util/Objects" (some 0) with
  accessFlags := 49
  interfaces := #[]
  cf := some (fileOf pool9 42 #[] #[{ accessFlags := 2, nameIndex := 5, descriptorIndex := 6, attributes := #[] }, { accessFlags := 9, nameIndex := 45, descriptorIndex := 94, attributes := #[] }] 49 2 #[] #[])
  fields := #[]
  methods := #[k9m0, k9m1]
  instanceTypes := #[]
  staticTypes := #[]
  resolved := Array.replicate 184 none
  statics := none }

def pool10 : Array CpInfo := pool [(1, u "java/lang/Cloneable"), (0, .class_ 1), (0, u "java/lang/Object"), (0, .class_ 3)] 3

/-- java/lang/Cloneable -/
def k10 : Class := { plain "java/lang/Cloneable" (some 0) with
  accessFlags := 1537
  interfaces := #[]
  cf := some (fileOf pool10 2 #[] #[] 1537 4 #[] #[])
  fields := #[]
  methods := #[]
  instanceTypes := #[]
  staticTypes := #[]
  resolved := Array.replicate 8 none
  statics := none }

/-- the primitive byte -/
def k11 : Class := { plain "byte" none with kind := .primitive 'B', accessFlags := 0x411 }
/-- [B -/
def k12 : Class := { plain "[B" (some 0) with kind := .array 11 .byte, interfaces := #[10, 3], accessFlags := 1041 }

/-- the primitive double -/
def k13 : Class := { plain "double" none with kind := .primitive 'D', accessFlags := 0x411 }
/-- [D -/
def k14 : Class := { plain "[D" (some 0) with kind := .array 13 .double, interfaces := #[10, 3], accessFlags := 1041 }

/-- the primitive int -/
def k15 : Class := { plain "int" none with kind := .primitive 'I', accessFlags := 0x411 }
/-- [I -/
def k16 : Class := { plain "[I" (some 0) with kind := .array 15 .int, interfaces := #[10, 3], accessFlags := 1041 }

def heap : Heap := #[]
def classes : Array Class := #[k0, k1, k2, k3, k4, k5, k6, k7, k8, k9, k10, k11, k12, k13, k14, k15, k16]
def interned : List (Array UInt16 × Addr) := []
def slotsUsed : Nat := 0
def theMethod : MethodId := ⟨1, 1⟩
def args0 : Array Value := #[.int 5, .int 7, .int 3, .int 2, .int 1]
def aboutOver (below : List Frame) : State where
  vm := { classes := classes, interned := interned.toArray }
  heap := heap
  slotsUsed := slotsUsed
  threads := #[{ frames := .invoking theMethod args0 :: below }]
def below0 : List Frame := [.native { method := ⟨0, 0⟩, args := #[] }]
def about1 : State := aboutOver below0
def p0 : Program := .bare "" "" ""
def e0 : Env := launch0.env 0 0 0
theorem w_frames : about1.frames = Frame.invoking theMethod args0 :: below0 := rfl
set_option maxRecDepth 65536 in
theorem w_args : argsFit about1.vm theMethod args0 = true := by decide +kernel
set_option maxRecDepth 65536 in
theorem w_heap : heapFits about1 = true := by decide +kernel
set_option maxRecDepth 65536 in
theorem w_runnable : about1.curStatus? = some .runnable := by decide +kernel
set_option maxRecDepth 65536 in
theorem w_alone : about1.alone = true := by decide +kernel
set_option maxRecDepth 65536 in
theorem w_named : about1.methodNamed? x = some theMethod := by decide +kernel
set_option maxRecDepth 65536 in
theorem w_hears : about1.hears theMethod below0 = true := by decide +kernel
set_option maxRecDepth 65536 in
theorem w_ripe : about1.ripe theMethod args0 below0 = true := by decide +kernel
theorem w_running : about1.status = .running := rfl
set_option maxRecDepth 65536 in
theorem w_room : about1.hasRoom e0.platform room_1 = true :=
  launch0.hasRoom_least _ room_1 (by decide +kernel) (by decide +kernel) (by decide +kernel) (by decide +kernel) (by decide +kernel) (by decide +kernel)
theorem allAtoms_all (ts : List Jvm.Cond) (a : Array Jvm.Value) (st : Jvm.State) : (allAtoms ts).before a st = ts.all (fun c => c.before a st) := by
  induction ts with
  | nil => rfl
  | cons c t ih =>
    show (Jvm.Cond.and c (allAtoms t)).before a st = _
    rw [Jvm.Cond.before_and, ih, List.all_cons]
def words1 : List Jvm.Cond := Jvm.Cond.code x code maxLocals ret :: tables_1
/-- a 'code' word, met by the world's own term for the bytes: nothing is compared byte by byte -/
theorem code_word {y : MethodName} {bytes : ByteArray} {mx : Nat} {rt : Option FieldType} {a : Array Value} {s : State} {m : MethodId} {meth : Method} {c : Code} (h1 : s.methodNamed? y = some m) (h2 : s.vm.method? m = some meth) (h3 : meth.code = some c) (h4 : c.code = bytes)
    (h5 : (c.maxLocals == mx && c.exceptionTable.isEmpty && decide (c.maxStack ≤ mostOperands) && decide (meth.sig.returnType = rt) && !meth.locks && decide (parseMethodDescriptor y.desc = some meth.sig)) = true) : (Jvm.Cond.code y bytes mx rt).before a s = true := by
  simp only [Bool.and_eq_true, beq_iff_eq, Bool.not_eq_true', decide_eq_true_eq] at h5
  obtain ⟨⟨⟨⟨⟨g1, g2⟩, g3⟩, g4⟩, g5⟩, g6⟩ := h5
  simp [Cond.before, Cond.holds, Cond.value, h1, h2, h3, h4, g1, g2, g3, g4, g5, g6]
def isCode : Jvm.Cond → Bool
  | .code _ _ _ _ => true
  | _ => false
theorem all_split {L : List Jvm.Cond} {P : Jvm.Cond → Bool} (h1 : L.all (fun c => isCode c || P c) = true) (h2 : ∀ c ∈ L.filter isCode, P c = true) : L.all P = true := by
  refine List.all_eq_true.mpr fun c hc => ?_
  have h := List.all_eq_true.mp h1 c hc
  rcases Bool.eq_false_or_eq_true (isCode c) with hi | hi
  · exact h2 c (List.mem_filter.mpr ⟨hc, hi⟩)
  · simpa [hi] using h
set_option maxRecDepth 65536 in
theorem w_c0 : (Jvm.Cond.code x code maxLocals ret).before args0 about1 = true := code_word (m := ⟨1, 1⟩) (meth := k1m1) (c := k1c1) (by decide +kernel) rfl rfl rfl (by decide +kernel)
set_option maxRecDepth 65536 in
theorem w_c1 : (Jvm.Cond.code ({ cls := "com/example/hedge/hedge/RewardStructure", name := "<init>", desc := "([D[D)V" } : Jvm.MethodName) prog_30_method_1_code (8 : Nat) (Option.none : Option Jvm.ClassFile.FieldType)).before args0 about1 = true := code_word (m := ⟨2, 0⟩) (meth := k2m0) (c := k2c0) (by decide +kernel) rfl rfl rfl (by decide +kernel)
set_option maxRecDepth 65536 in
theorem w_c2 : (Jvm.Cond.code ({ cls := "java/lang/Object", name := "<init>", desc := "()V" } : Jvm.MethodName) object_method_1_code (1 : Nat) (Option.none : Option Jvm.ClassFile.FieldType)).before args0 about1 = true := code_word (m := ⟨0, 0⟩) (meth := k0m0) (c := k0c0) (by decide +kernel) rfl rfl rfl (by decide +kernel)
set_option maxRecDepth 65536 in
theorem w_c3 : (Jvm.Cond.code ({ cls := "java/util/Objects", name := "requireNonNull", desc := "(Ljava/lang/Object;Ljava/lang/String;)Ljava/lang/Object;" } : Jvm.MethodName) jdk_31_method_11_code (2 : Nat) (Option.some (Jvm.ClassFile.FieldType.object "java/lang/Object"))).before args0 about1 = true := code_word (m := ⟨9, 1⟩) (meth := k9m1) (c := k9c1) (by decide +kernel) rfl rfl rfl (by decide +kernel)
set_option maxRecDepth 65536 in
theorem w_c4 : (Jvm.Cond.code ({ cls := "com/example/hedge/hedge/RewardStructure", name := "fits", desc := "(II)Z" } : Jvm.MethodName) prog_30_method_6_code (3 : Nat) (Option.some Jvm.ClassFile.FieldType.boolean)).before args0 about1 = true := code_word (m := ⟨2, 2⟩) (meth := k2m2) (c := k2c2) (by decide +kernel) rfl rfl rfl (by decide +kernel)
set_option maxRecDepth 65536 in
theorem w_c5 : (Jvm.Cond.code ({ cls := "com/example/hedge/hedge/RewardStructure", name := "checkReward", desc := "(D)D" } : Jvm.MethodName) prog_30_method_2_code (2 : Nat) (Option.some Jvm.ClassFile.FieldType.double)).before args0 about1 = true := code_word (m := ⟨2, 1⟩) (meth := k2m1) (c := k2c1) (by decide +kernel) rfl rfl rfl (by decide +kernel)
def codes1 : List Jvm.Cond := [Jvm.Cond.code x code maxLocals ret, Jvm.Cond.code ({ cls := "com/example/hedge/hedge/RewardStructure", name := "<init>", desc := "([D[D)V" } : Jvm.MethodName) prog_30_method_1_code (8 : Nat) (Option.none : Option Jvm.ClassFile.FieldType), Jvm.Cond.code ({ cls := "java/lang/Object", name := "<init>", desc := "()V" } : Jvm.MethodName) object_method_1_code (1 : Nat) (Option.none : Option Jvm.ClassFile.FieldType), Jvm.Cond.code ({ cls := "java/util/Objects", name := "requireNonNull", desc := "(Ljava/lang/Object;Ljava/lang/String;)Ljava/lang/Object;" } : Jvm.MethodName) jdk_31_method_11_code (2 : Nat) (Option.some (Jvm.ClassFile.FieldType.object "java/lang/Object")), Jvm.Cond.code ({ cls := "com/example/hedge/hedge/RewardStructure", name := "fits", desc := "(II)Z" } : Jvm.MethodName) prog_30_method_6_code (3 : Nat) (Option.some Jvm.ClassFile.FieldType.boolean), Jvm.Cond.code ({ cls := "com/example/hedge/hedge/RewardStructure", name := "checkReward", desc := "(D)D" } : Jvm.MethodName) prog_30_method_2_code (2 : Nat) (Option.some Jvm.ClassFile.FieldType.double)]
set_option maxRecDepth 65536 in
theorem codes_eq : words1.filter isCode = codes1 := rfl
theorem w_codes : ∀ c ∈ words1.filter isCode, c.before args0 about1 = true := by
  rw [codes_eq]
  intro c hc
  simp only [codes1, List.mem_cons, List.not_mem_nil, or_false] at hc
  rcases hc with rfl | rfl | rfl | rfl | rfl | rfl
  · exact w_c0
  · exact w_c1
  · exact w_c2
  · exact w_c3
  · exact w_c4
  · exact w_c5
set_option maxRecDepth 65536 in
theorem w_t1 : (words1.take 24).all (fun c => isCode c || c.before args0 about1) = true := by decide +kernel
set_option maxRecDepth 65536 in
theorem w_t2 : (words1.drop 24).all (fun c => isCode c || c.before args0 about1) = true := by decide +kernel
theorem w_tables : (allAtoms (Jvm.Cond.code x code maxLocals ret :: tables_1)).before args0 about1 = true := by
  rw [allAtoms_all]
  show words1.all (fun c => c.before args0 about1) = true
  refine all_split ?_ w_codes
  rw [← List.take_append_drop 24 words1, List.all_append, w_t1, w_t2]
  rfl
set_option maxRecDepth 65536 in
theorem w_case : (Jvm.Cond.and given_1 narrow_1).before args0 about1 = true := by decide +kernel
theorem w_applies : (headSpec (Jvm.Cond.code x code maxLocals ret :: tables_1) room_1).applies x e0.platform about1 = true :=
  (Spec.applies_iff w_frames).mpr ⟨w_running, w_runnable, w_alone, w_named, w_hears, w_ripe, w_room, w_tables⟩
theorem atStart : AtStart classFile x code maxLocals ret World_1 tables_1 room_1 Calls_1 rest_1 Pre_1 launch0 p0 e0 about1 theMethod args0 below0 :=
  ⟨lists_1, trivial, launch0.admits_env _ _ _, launch0.least_env, fairChoices_fair.cas, fairChoices_fair.clock, w_frames, w_args, w_heap, w_applies, trivial, trivial, w_case⟩
end start1
theorem witness_1 : WitnessClaimed_1 := ⟨start1.p0, start1.e0, start1.about1, start1.theMethod, start1.args0, start1.below0, start1.atStart⟩
end Jvm.Pilot.@@N@@
