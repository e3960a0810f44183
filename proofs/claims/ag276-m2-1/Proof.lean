import JvmDerived
import JvmDerived.Pilot.@@N@@Statement
import JvmDerived.Pilot.@@N@@Code
set_option linter.unusedVariables false
set_option linter.unusedSimpArgs false
namespace Jvm.RoadKit
open Sem ClassFile Op Lib Jvm.Stand Jvm.Free Jvm.LawKit
section Own
variable {p : Program} {l : Launch} {e : Env} {R : Room} {s : State} {m : MethodId} {args : Array Value} {below : List Frame} {meth : Method} {c : Code} {T : State} {locs : List Loc} {cells slots : Nat}
theorem own_ni0 {a : Addr} : a ∉ ([] : List Addr) := List.not_mem_nil
theorem own_niS {a b : Addr} {ws : List Addr} (h : a ≠ b) (r : a ∉ ws) : a ∉ b :: ws := fun q => (List.mem_cons.mp q).elim h r
theorem own_all0 {P : Addr → Prop} : ∀ x ∈ ([] : List Addr), P x := fun _ q => nomatch q
theorem own_allS {P : Addr → Prop} {b : Addr} {ws : List Addr} (h : P b) (r : ∀ x ∈ ws, P x) : ∀ x ∈ b :: ws, P x := fun x q => (List.mem_cons.mp q).elim (fun e => e ▸ h) (r x)
theorem own_arvL {Z : State} {h : Heap} {a : Addr} {k : ClassId} {ty : FieldType} {n : Int32} {vs vs1 : List Value} {d : Value} (q : vs = vs1) (F : Arv Z h a k ty n vs d) : Arv Z h a k ty n vs1 d := q ▸ F
theorem own_lremM {g : JFrame} {target : State} (X : Stand p l e R s m args below meth c T locs cells slots) (hx : p.tables.exec = Jvm.exec) (hg : g.method = m) {x y : Int64} {rest : List Value} (hd : decode c.code g.pc = .ok (.lrem, 1)) (hs : g.stack = .long y :: .long x :: rest) (hy : y ≠ 0)
    (hr : Steps p.tables e below (T.setTop { g with pc := g.pc + 1, stack := .long (x % y) :: rest }) target) : Steps p.tables e below (T.setTop g) target :=
  XS.lrem X.here hx hg hd hs hy (by rw [lrem_mod]; exact hr)
theorem own_narZ {x : Int32} (h : x = (0 : Int32) ∨ x = (1 : Int32)) : nar .boolean x = x := by rcases h with rfl | rfl <;> decide
theorem own_fitZ {x : Int32} (h : x = (0 : Int32) ∨ x = (1 : Int32)) : fits .boolean (.int x) = true := by rcases h with rfl | rfl <;> decide
theorem own_fldV {Z : State} {h : Heap} {a : Addr} {C n d : String} {v v1 : Value} (q : v = v1) (F : Fld Z h a C n d v) : Fld Z h a C n d v1 := q ▸ F
theorem own_W0 {Z : State} {own : String} {h : Heap} (X : Stand p l e R s m args below meth c T locs cells slots) (eT : T.heap = h) (hZ : Z.Warmed39 s.vm) (hown : s.vm.findClass own = some m.cls) :
    ∃ vm0 k0, Stand p l e R (s.setVm vm0) m args below meth c T locs cells slots ∧ s.Since vm0 k0 ∧ k0 ≤ h.size ∧ Z.Warmed39 (s.setVm vm0).vm ∧ (s.setVm vm0).vm.findClass own = some m.cls :=
  ⟨T.vm, _, X.retabled X.warmed.wide, X.warmed.since h.size, Nat.le_refl _, State.Warmed39.trans (t := s) hZ X.warmed.wide, by rw [show (s.setVm T.vm).vm = T.vm from rfl, X.warmed.alike.findClass]; exact hown⟩
theorem own_fold {Z : State} {own : String} {vm0 vm1 : Vm} {k0 k1 : Nat} (X : Stand p l e R ((s.setVm vm0).setVm vm1) m args below meth c T locs cells slots) (hS : s.Since vm0 k0) (h2 : (s.setVm vm0).Since vm1 k1) (hn : k0 ≤ k1) (hZ : Z.Warmed39 (s.setVm vm0).vm) (hown : (s.setVm vm0).vm.findClass own = some m.cls) :
    Stand p l e R (s.setVm vm1) m args below meth c T locs cells slots ∧ s.Since vm1 k1 ∧ Z.Warmed39 (s.setVm vm1).vm ∧ (s.setVm vm1).vm.findClass own = some m.cls :=
  ⟨X, hS.trans h2 hn, State.Warmed39.trans (t := s.setVm vm0) hZ h2.1, by rw [show (s.setVm vm1).vm = vm1 from rfl, h2.1.alike.findClass]; exact hown⟩
end Own
end Jvm.RoadKit
namespace Jvm.OwnFP
open Jvm.FP Jvm.FP.Core Jvm.Free.Fl
/-- a double's worth, in units of the least positive double -/
def zv (x : UInt64) : Int := zval b64 (val64 x)
/-- x is finite and is the number i / D -/
def Ra (i : Int) (D : Nat) (x : UInt64) : Prop := DFin x ∧ zv x * (D : Int) = i * (one64 : Int)
theorem Ra.fin {i : Int} {D : Nat} {x : UInt64} (h : Ra i D x) : Fin64 x := fin64_core.mpr h.1
theorem Ra.nn {i : Int} {D : Nat} {x : UInt64} (h : Ra i D x) : NoNaN64 x := h.fin.noNaN
theorem Ra.ne_nan {i : Int} {D : Nat} {x : UInt64} (h : Ra i D x) : val64 x ≠ .nan := h.1.ne_nan
theorem oz : (0 : Int) < (one64 : Int) := Int.natCast_pos.mpr one64_pos
theorem nan_of {x : UInt64} (h : NoNaN64 x) : val64 x ≠ .nan := (notNaN_iff x).mp (noNaN64_no.mp h)
theorem mulc {a b c : Int} (hc : c ≠ 0) (h : a * c = b * c) : a = b := Int.eq_of_mul_eq_mul_right hc h
theorem al_scale {z D D' i i' o : Int} (h : z * D = i * o) (e : i * D' = i' * D) : z * D' * D = i' * o * D := by
  calc z * D' * D = z * D * D' := by ac_rfl
    _ = i * o * D' := by rw [h]
    _ = i * D' * o := by ac_rfl
    _ = i' * o * D := by rw [e]; ac_rfl
theorem al_mul {x y v D E i j o : Int} (hx : x * D = i * o) (hy : y * E = j * o) (hv : v * (D * E) = i * j * o) : x * y * (D * E) = v * o * (D * E) := by
  calc x * y * (D * E) = (x * D) * (y * E) := by ac_rfl
    _ = (i * o) * (j * o) := by rw [hx, hy]
    _ = (i * j * o) * o := by ac_rfl
    _ = v * (D * E) * o := by rw [hv]
    _ = v * o * (D * E) := by ac_rfl
theorem al_mulr {x y v D E F i j r o : Int} (hx : x * D = i * o) (hy : y * E = j * o) (hv : v * F = r * o) (h : i * j * F = r * (D * E)) : x * y * D * E * F = v * o * D * E * F := by
  calc x * y * D * E * F = (x * D) * (y * E) * F := by ac_rfl
    _ = (i * j * F) * (o * o) := by rw [hx, hy]; ac_rfl
    _ = (r * o) * o * (D * E) := by rw [h]; ac_rfl
    _ = (v * F) * o * (D * E) := by rw [hv]
    _ = v * o * D * E * F := by ac_rfl
theorem al_div {x y v D E F i j r o : Int} (hx : x * D = i * o) (hy : y * E = j * o) (hv : v * F = r * o) (h : i * E * F = r * (j * D)) : x * o * D * E * F = v * y * D * E * F := by
  calc x * o * D * E * F = (x * D) * (o * E * F) := by ac_rfl
    _ = (i * E * F) * (o * o) := by rw [hx]; ac_rfl
    _ = (r * o) * (j * o) * D := by rw [h]; ac_rfl
    _ = (v * F) * (y * E) * D := by rw [hv, hy]
    _ = v * y * D * E * F := by ac_rfl
theorem al_units {V d P Q : Nat} : V * P * d * Q = (V * (d * Q)) * P := by ac_rfl
theorem al_mag {i P D o : Nat} (h : i ≤ P * D) : i * o ≤ P * o * D := by
  calc i * o ≤ P * D * o := Nat.mul_le_mul_right _ h
    _ = P * o * D := by ac_rfl
theorem rep {i : Int} {D k : Nat} (hi : i.natAbs < 9007199254740992) (hD : D = 2 ^ k) (hk : k ≤ 1000) : ∃ V, Ra i D V := by
  have hc : i.natAbs < 2 ^ b64.p := by rw [show (2 : Nat) ^ b64.p = 9007199254740992 by decide +kernel]; exact hi
  have hq2 : b64.qmax = 971 := by decide
  obtain ⟨c', q', h1, h2⟩ := round_exact good_b64 (decide (i < 0)) (c := i.natAbs) (q := -(k : Int)) hc (by rw [qmin_b64]; omega) (by rw [hq2]; omega)
  refine ⟨of64 (round b64 (.fin (decide (i < 0)) i.natAbs (-(k : Int)))), ⟨_, _, _, by rw [val64_of64 (round_fits good_b64 _), h1]⟩, ?_⟩
  unfold zv
  rw [val64_of64 (round_fits good_b64 _), h1]
  show signed (decide (i < 0)) (inUnits c' q' b64.qmin) * _ = _
  rw [h2]
  unfold inUnits
  have e1 : signed (decide (i < 0)) i.natAbs = i := by unfold signed; by_cases h : i < 0 <;> simp [h] <;> omega
  have e2 : (-(k : Int) - b64.qmin).toNat + k = 1074 := by rw [qmin_b64]; omega
  rw [signed_mul, e1, Int.mul_assoc, hD, ← Int.natCast_mul, ← Nat.pow_add, e2]
  rfl
theorem fin_of {x V : UInt64} (hn : val64 x ≠ .nan) (hV : DFin V) (h : zv x = zv V) : DFin x := by
  cases hx : val64 x with
  | nan => exact absurd hx hn
  | fin s c q => exact ⟨s, c, q, hx⟩
  | inf s =>
    exfalso
    have h1 := hV.zval_lt
    unfold zv zval at h
    rw [hx] at h
    have h2 := congrArg Int.natAbs h
    rw [natAbs_signed, natAbs_signed] at h2
    exact absurd h2.symm (Nat.ne_of_lt h1)
theorem Ra.scale {i i' : Int} {D D' : Nat} {x : UInt64} (h : Ra i D x) (hD : 0 < D) (e : i * (D' : Int) = i' * (D : Int)) : Ra i' D' x := by
  exact ⟨h.1, mulc (c := (D : Int)) (by omega) (al_scale h.2 e)⟩
theorem Ra.same {i i' : Int} {D : Nat} {x : UInt64} (h : Ra i D x) (e : i = i') : Ra i' D x := e ▸ h
theorem Ra.add {i j : Int} {D k : Nat} {x y : UInt64} (hx : Ra i D x) (hy : Ra j D y) (h : (i + j).natAbs < 9007199254740992) (hD : D = 2 ^ k) (hk : k ≤ 1000) : Ra (i + j) D (FP.dadd x y) := by
  obtain ⟨V, hV⟩ := rep h hD hk
  have hD0 : (D : Int) ≠ 0 := by rw [hD]; exact Int.ne_of_gt (Int.natCast_pos.mpr (Nat.two_pow_pos k))
  have hs : zval b64 (val64 x) + zval b64 (val64 y) = zval b64 (val64 V) := mulc hD0 (by
    have a := hx.2; have b := hy.2; have c := hV.2
    unfold zv at a b c
    rw [Int.add_mul, a, b, c, Int.add_mul])
  have hz : zv (Core.dadd x y) = zv V := by
    unfold zv
    rw [val64_dadd]
    exact Int.le_antisymm (sum_le good_b64 hx.1 hy.1 (val64_fits x) (val64_fits y) (val64_fits V) hV.ne_nan (Int.le_of_eq hs)) (sum_ge good_b64 hx.1 hy.1 (val64_fits x) (val64_fits y) (val64_fits V) hV.ne_nan (Int.le_of_eq hs.symm))
  exact ⟨fin_of ((notNaN_iff _).mp (dadd_out hx.1.notNaN hy.1)) hV.1 hz, by show zv (Core.dadd x y) * _ = _; rw [hz, hV.2]⟩
theorem fin_negate {x : UInt64} (h : DFin x) : ∃ s c q, negate (val64 x) = .fin s c q := by
  obtain ⟨s, c, q, h⟩ := h; exact ⟨!s, c, q, by rw [h]; rfl⟩
theorem Ra.sub {i j : Int} {D k : Nat} {x y : UInt64} (hx : Ra i D x) (hy : Ra j D y) (h : (i - j).natAbs < 9007199254740992) (hD : D = 2 ^ k) (hk : k ≤ 1000) : Ra (i - j) D (FP.dsub x y) := by
  obtain ⟨V, hV⟩ := rep h hD hk
  have hD0 : (D : Int) ≠ 0 := by rw [hD]; exact Int.ne_of_gt (Int.natCast_pos.mpr (Nat.two_pow_pos k))
  have hs : zval b64 (val64 x) + zval b64 (negate (val64 y)) = zval b64 (val64 V) := mulc hD0 (by
    have a := hx.2; have b := hy.2; have c := hV.2
    unfold zv at a b c
    rw [zval_negate, Int.add_mul, Int.neg_mul, a, b, c, Int.sub_mul]
    omega)
  have hz : zv (Core.dsub x y) = zv V := by
    unfold zv
    rw [val64_dsub]
    exact Int.le_antisymm (sum_le good_b64 hx.1 (fin_negate hy.1) (val64_fits x) (negate_fits (val64_fits y)) (val64_fits V) hV.ne_nan (Int.le_of_eq hs)) (sum_ge good_b64 hx.1 (fin_negate hy.1) (val64_fits x) (negate_fits (val64_fits y)) (val64_fits V) hV.ne_nan (Int.le_of_eq hs.symm))
  exact ⟨fin_of ((notNaN_iff _).mp (dsub_out hx.1.notNaN hy.1)) hV.1 hz, by show zv (Core.dsub x y) * _ = _; rw [hz, hV.2]⟩
theorem qq : (b64.qmin - 2 * b64.qmin).toNat = (-b64.qmin).toNat := by rw [qmin_b64]; decide
/-- a product, held against a double -/
theorem mul_le {x y V : UInt64} (hx : DFin x) (hy : DFin y) (hV : val64 V ≠ .nan) (h : zv x * zv y ≤ zv V * (one64 : Int)) : zv (Core.dmul x y) ≤ zv V := by
  obtain ⟨s, c, q, ex⟩ := hx
  obtain ⟨t, d, r, ey⟩ := hy
  have fx := val64_fits x; have fy := val64_fits y
  rw [ex] at fx; rw [ey] at fy
  obtain ⟨p1, p2, p3⟩ := product_units fx fy
  unfold zv at h ⊢
  rw [val64_dmul, ex, ey, p1]
  rw [ex, ey] at h
  exact zval_round_le good_b64 (val64_fits V) hV (e0 := 2 * b64.qmin) (by rw [qmin_b64]; decide) p2 (by rw [p3, signed_xor, qq, pow_qmin64]; exact h)
theorem mul_ge {x y V : UInt64} (hx : DFin x) (hy : DFin y) (hV : val64 V ≠ .nan) (h : zv V * (one64 : Int) ≤ zv x * zv y) : zv V ≤ zv (Core.dmul x y) := by
  obtain ⟨s, c, q, ex⟩ := hx
  obtain ⟨t, d, r, ey⟩ := hy
  have fx := val64_fits x; have fy := val64_fits y
  rw [ex] at fx; rw [ey] at fy
  obtain ⟨p1, p2, p3⟩ := product_units fx fy
  unfold zv at h ⊢
  rw [val64_dmul, ex, ey, p1]
  rw [ex, ey] at h
  exact zval_round_ge good_b64 (val64_fits V) hV (e0 := 2 * b64.qmin) (by rw [qmin_b64]; decide) p2 (by rw [p3, signed_xor, qq, pow_qmin64]; exact h)
/-- the product's worth, where it is a double's -/
theorem mul_zv {x y V : UInt64} (hx : DFin x) (hy : DFin y) (hV : val64 V ≠ .nan) (h : zv x * zv y = zv V * (one64 : Int)) : zv (Core.dmul x y) = zv V :=
  Int.le_antisymm (mul_le hx hy hV (Int.le_of_eq h)) (mul_ge hx hy hV (Int.le_of_eq h.symm))
theorem Ra.mul {i j : Int} {D E k : Nat} {x y : UInt64} (hx : Ra i D x) (hy : Ra j E y) (h : (i * j).natAbs < 9007199254740992) (hD : D * E = 2 ^ k) (hk : k ≤ 1000) : Ra (i * j) (D * E) (FP.dmul x y) := by
  obtain ⟨V, hV⟩ := rep h hD hk
  have hD0 : ((D * E : Nat) : Int) ≠ 0 := by rw [hD]; exact Int.ne_of_gt (Int.natCast_pos.mpr (Nat.two_pow_pos k))
  have hv := hV.2
  rw [Int.natCast_mul] at hv hD0
  have hs : zv x * zv y = zv V * (one64 : Int) := mulc hD0 (al_mul hx.2 hy.2 hv)
  have hz : zv (Core.dmul x y) = zv V := mul_zv hx.1 hy.1 hV.ne_nan hs
  exact ⟨fin_of ((notNaN_iff _).mp (dmul_out hx.1 hy.1)) hV.1 hz, by show zv (Core.dmul x y) * _ = _; rw [hz, hV.2]⟩
/-- a product written in its least terms -/
theorem Ra.mulr {i j r : Int} {D E F k : Nat} {x y : UInt64} (hx : Ra i D x) (hy : Ra j E y) (hD : 0 < D) (hE : 0 < E) (hr : r.natAbs < 9007199254740992) (hF : F = 2 ^ k) (hk : k ≤ 1000) (h : i * j * (F : Int) = r * ((D : Int) * (E : Int))) : Ra r F (FP.dmul x y) := by
  obtain ⟨V, hV⟩ := rep hr hF hk
  have hF0 : (F : Int) ≠ 0 := by rw [hF]; exact Int.ne_of_gt (Int.natCast_pos.mpr (Nat.two_pow_pos k))
  have hs : zv x * zv y = zv V * (one64 : Int) := by
    exact mulc (c := (D : Int)) (by omega) (mulc (c := (E : Int)) (by omega) (mulc hF0 (al_mulr hx.2 hy.2 hV.2 h)))
  have hz : zv (Core.dmul x y) = zv V := mul_zv hx.1 hy.1 hV.ne_nan hs
  exact ⟨fin_of ((notNaN_iff _).mp (dmul_out hx.1 hy.1)) hV.1 hz, by show zv (Core.dmul x y) * _ = _; rw [hz, hV.2]⟩
theorem zv_abs (x : UInt64) : (zv x).natAbs = zmag b64 (val64 x) := by unfold zv zval; rw [natAbs_signed]
/-- the quotient's parts -/
theorem div_parts {x y : UInt64} (hx : DFin x) (hy : DFin y) (hz : zv y ≠ 0) : ∃ s t c d q r, val64 x = .fin s c q ∧ val64 y = .fin t d r ∧ 0 < d ∧ b64.qmin ≤ q ∧ b64.qmin ≤ r ∧ zmag b64 (val64 x) = c * 2 ^ (q - b64.qmin).toNat ∧ zmag b64 (val64 y) = d * 2 ^ (r - b64.qmin).toNat ∧ val64 (Core.ddiv x y) = roundRatio b64 (s != t) c d (q - r) := by
  obtain ⟨s, c, q, ex⟩ := hx
  obtain ⟨t, d, r, ey⟩ := hy
  have fx := val64_fits x; have fy := val64_fits y
  rw [ex] at fx; rw [ey] at fy
  have hd : d ≠ 0 := fun h => hz (by unfold zv; rw [ey, h]; simp [zval, zmag, sgn, inUnits, signed])
  refine ⟨s, t, c, d, q, r, ex, ey, Nat.pos_of_ne_zero hd, fx.2.1, fy.2.1, by rw [ex]; rfl, by rw [ey]; rfl, ?_⟩
  rw [val64_ddiv, ex, ey]
  show (if d = 0 then _ else roundRatio b64 (s != t) c d (q - r)) = _
  rw [if_neg hd]
theorem div_units {c d V : Nat} {q r e : Int} (hq : b64.qmin ≤ q) (hr : b64.qmin ≤ r) (h1 : e ≤ b64.qmin) (h2 : e ≤ q - r) :
    inUnits c (q - r) e * 2 ^ (r - b64.qmin).toNat = (c * 2 ^ (q - b64.qmin).toNat * one64) * 2 ^ (b64.qmin - e).toNat ∧
      V * 2 ^ (b64.qmin - e).toNat * d * 2 ^ (r - b64.qmin).toNat = (V * (d * 2 ^ (r - b64.qmin).toNat)) * 2 ^ (b64.qmin - e).toNat := by
  refine ⟨?_, al_units⟩
  have hn : b64.qmin < 0 := by rw [qmin_b64]; decide
  unfold inUnits
  rw [← pow_qmin64, Nat.mul_assoc, Nat.mul_assoc, Nat.mul_assoc, ← Nat.pow_add, ← Nat.pow_add, ← Nat.pow_add]
  congr 2
  omega
theorem div_mag_le {x y V : UInt64} (hx : DFin x) (hy : DFin y) (hz : zv y ≠ 0) (hV : val64 V ≠ .nan) (h : (zv x).natAbs * one64 ≤ (zv V).natAbs * (zv y).natAbs) : (zv (Core.ddiv x y)).natAbs ≤ (zv V).natAbs := by
  obtain ⟨s, t, c, d, q, r, ex, ey, hd, hq, hr, mx, my, hv⟩ := div_parts hx hy hz
  rw [zv_abs, zv_abs, hv]
  rw [zv_abs, zv_abs, zv_abs, mx, my] at h
  refine zmag_roundRatio_le good_b64 hd (val64_fits V) hV (e0 := min b64.qmin (q - r)) (by omega) (by omega) ?_
  obtain ⟨u1, u2⟩ := div_units (c := c) (d := d) (V := zmag b64 (val64 V)) hq hr (e := min b64.qmin (q - r)) (by omega) (by omega)
  refine Nat.le_of_mul_le_mul_right (c := 2 ^ (r - b64.qmin).toNat) ?_ (Nat.two_pow_pos _)
  rw [u1, u2]
  exact Nat.mul_le_mul_right _ h
theorem div_mag_ge {x y V : UInt64} (hx : DFin x) (hy : DFin y) (hz : zv y ≠ 0) (h : (zv V).natAbs * (zv y).natAbs ≤ (zv x).natAbs * one64) : (zv V).natAbs ≤ (zv (Core.ddiv x y)).natAbs := by
  obtain ⟨s, t, c, d, q, r, ex, ey, hd, hq, hr, mx, my, hv⟩ := div_parts hx hy hz
  rw [zv_abs, zv_abs, hv]
  rw [zv_abs, zv_abs, zv_abs, mx, my] at h
  refine zmag_roundRatio_ge good_b64 hd (val64_fits V) (e0 := min b64.qmin (q - r)) (by omega) (by omega) ?_
  obtain ⟨u1, u2⟩ := div_units (c := c) (d := d) (V := zmag b64 (val64 V)) hq hr (e := min b64.qmin (q - r)) (by omega) (by omega)
  refine Nat.le_of_mul_le_mul_right (c := 2 ^ (r - b64.qmin).toNat) ?_ (Nat.two_pow_pos _)
  rw [u1, u2]
  exact Nat.mul_le_mul_right _ h
theorem zv_sgn (x : UInt64) : zv x = signed (sgn (val64 x)) (zv x).natAbs := by rw [zv_abs]; rfl
theorem div_sgn {x y : UInt64} (hx : DFin x) (hy : DFin y) (hz : zv y ≠ 0) : sgn (val64 (Core.ddiv x y)) = (sgn (val64 x) != sgn (val64 y)) := by
  obtain ⟨s, t, c, d, q, r, ex, ey, -, -, -, -, -, hv⟩ := div_parts hx hy hz
  rw [hv, sgn_roundRatio, ex, ey]; rfl
theorem sgn_pos {x : UInt64} (h : 0 < zv x) : sgn (val64 x) = false := by
  rw [zv_sgn] at h
  cases hs : sgn (val64 x) with
  | false => rfl
  | true => rw [hs] at h; simp [signed] at h; omega
theorem div_nonneg {x y : UInt64} (hx : DFin x) (hy : DFin y) (h1 : 0 < zv x) (h2 : 0 < zv y) : zv (Core.ddiv x y) = ((zv (Core.ddiv x y)).natAbs : Int) := by
  have h := div_sgn hx hy (Int.ne_of_gt h2)
  rw [sgn_pos h1, sgn_pos h2] at h
  rw [zv_sgn (Core.ddiv x y), h]; simp [signed]
theorem div_ge {x y V : UInt64} (hx : DFin x) (hy : DFin y) (h1 : 0 < zv x) (h2 : 0 < zv y) (hV : 0 ≤ zv V) (h : zv V * zv y ≤ zv x * (one64 : Int)) : zv V ≤ zv (Core.ddiv x y) := by
  have k : (zv V).natAbs * (zv y).natAbs ≤ (zv x).natAbs * one64 := by
    have e1 : ((zv V).natAbs : Int) = zv V := by omega
    have e2 : ((zv y).natAbs : Int) = zv y := by omega
    have e3 : ((zv x).natAbs : Int) = zv x := by omega
    refine Int.ofNat_le.mp ?_
    rw [Int.natCast_mul, Int.natCast_mul, e1, e2, e3]; exact h
  have := div_mag_ge hx hy (Int.ne_of_gt h2) k
  rw [div_nonneg hx hy h1 h2]; omega
theorem div_le {x y V : UInt64} (hx : DFin x) (hy : DFin y) (h1 : 0 < zv x) (h2 : 0 < zv y) (hn : val64 V ≠ .nan) (hV : 0 ≤ zv V) (h : zv x * (one64 : Int) ≤ zv V * zv y) : zv (Core.ddiv x y) ≤ zv V := by
  have k : (zv x).natAbs * one64 ≤ (zv V).natAbs * (zv y).natAbs := by
    have e1 : ((zv V).natAbs : Int) = zv V := by omega
    have e2 : ((zv y).natAbs : Int) = zv y := by omega
    have e3 : ((zv x).natAbs : Int) = zv x := by omega
    refine Int.ofNat_le.mp ?_
    rw [Int.natCast_mul, Int.natCast_mul, e1, e2, e3]; exact h
  have := div_mag_le hx hy (Int.ne_of_gt h2) hn k
  rw [div_nonneg hx hy h1 h2]; omega
theorem signed_inj {s t : Bool} {n : Nat} (hn : n ≠ 0) (h : signed s n = signed t n) : s = t := by
  cases s <;> cases t <;> simp [signed] at h ⊢ <;> omega
theorem xor_back {s t v : Bool} (h : s = (v != t)) : (s != t) = v := by cases s <;> cases t <;> cases v <;> simp_all
/-- the quotient's worth, where it is a double's -/
theorem div_zv {x y V : UInt64} (hx : DFin x) (hy : DFin y) (hz : zv y ≠ 0) (hV : DFin V) (h : zv x * (one64 : Int) = zv V * zv y) : zv (Core.ddiv x y) = zv V := by
  have ha : (zv x).natAbs * one64 = (zv V).natAbs * (zv y).natAbs := by
    have := congrArg Int.natAbs h
    rwa [Int.natAbs_mul, Int.natAbs_mul, Int.natAbs_natCast] at this
  have hm : (zv (Core.ddiv x y)).natAbs = (zv V).natAbs := Nat.le_antisymm (div_mag_le hx hy hz hV.ne_nan (Nat.le_of_eq ha)) (div_mag_ge hx hy hz (Nat.le_of_eq ha.symm))
  rw [zv_sgn (Core.ddiv x y), hm, div_sgn hx hy hz]
  by_cases h0 : (zv V).natAbs = 0
  · rw [h0, Int.natAbs_eq_zero.mp h0]; exact signed_zero _
  · have k : signed (sgn (val64 x)) ((zv x).natAbs * one64) = zv x * (one64 : Int) := by rw [signed_mul, ← zv_sgn]
    rw [ha] at k
    have k2 : signed (sgn (val64 V) != sgn (val64 y)) ((zv V).natAbs * (zv y).natAbs) = zv V * zv y := by rw [signed_xor, ← zv_sgn, ← zv_sgn]
    have e := xor_back (signed_inj (n := (zv V).natAbs * (zv y).natAbs) (Nat.mul_ne_zero h0 (fun q => hz (Int.natAbs_eq_zero.mp q))) (k.trans (h.trans k2.symm)))
    rw [e, ← zv_sgn]
theorem Ra.div {i j r : Int} {D E F k : Nat} {x y : UInt64} (hx : Ra i D x) (hy : Ra j E y) (hD : 0 < D) (hE : 0 < E) (hj : j ≠ 0) (hr : r.natAbs < 9007199254740992) (hF : F = 2 ^ k) (hk : k ≤ 1000) (h : i * (E : Int) * (F : Int) = r * (j * (D : Int))) : Ra r F (FP.ddiv x y) := by
  obtain ⟨V, hV⟩ := rep hr hF hk
  have hF0 : (F : Int) ≠ 0 := by rw [hF]; exact Int.ne_of_gt (Int.natCast_pos.mpr (Nat.two_pow_pos k))
  have hy0 : zv y ≠ 0 := fun q => by
    have := hy.2; rw [q, Int.zero_mul] at this
    exact (Int.mul_ne_zero hj (Int.ne_of_gt oz)) this.symm
  have hs : zv x * (one64 : Int) = zv V * zv y := by
    exact mulc (c := (D : Int)) (by omega) (mulc (c := (E : Int)) (by omega) (mulc hF0 (al_div hx.2 hy.2 hV.2 h)))
  have hz : zv (Core.ddiv x y) = zv V := div_zv hx.1 hy.1 hy0 hV.1 hs
  have hyz : ¬ DZero y := fun q => hy0 (by unfold zv; exact DZero.zval q)
  exact ⟨fin_of ((notNaN_iff _).mp (ddiv_out hx.1.notNaN hy.1 hyz)) hV.1 hz, by show zv (Core.ddiv x y) * _ = _; rw [hz, hV.2]⟩
/-- two quotients of one ratio are of one worth -/
theorem div_alike {x y x' y' : UInt64} (hx : DFin x) (hy : DFin y) (hx' : DFin x') (hy' : DFin y') (hz : zv y ≠ 0) (hz' : zv y' ≠ 0) (h : zv x * zv y' = zv x' * zv y) : zv (Core.ddiv x y) = zv (Core.ddiv x' y') := by
  have ha : (zv x).natAbs * (zv y').natAbs = (zv x').natAbs * (zv y).natAbs := by
    have := congrArg Int.natAbs h
    rwa [Int.natAbs_mul, Int.natAbs_mul] at this
  have hsg := div_sgn hx hy hz
  have hsg' := div_sgn hx' hy' hz'
  obtain ⟨s, t, c, d, q, r, ex, ey, hd, hq, hr, mx, my, hv⟩ := div_parts hx hy hz
  obtain ⟨s', t', c', d', q', r', ex', ey', hd', hq', hr', mx', my', hv'⟩ := div_parts hx' hy' hz'
  have hm : (zv (Core.ddiv x y)).natAbs = (zv (Core.ddiv x' y')).natAbs := by
    rw [zv_abs, zv_abs, zv_abs, zv_abs, mx, my, mx', my'] at ha
    rw [zv_abs, zv_abs, hv, hv']
    have e : roundRatio b64 (s != t) c d (q - r) = roundRatio b64 (s != t) c' d' (q' - r') := by
      refine roundRatio_congr hd hd' ?_
      have g1 : ∃ T, (q - b64.qmin).toNat + (r' - b64.qmin).toNat = (q - r - (q' - r')).toNat + T ∧ (q' - b64.qmin).toNat + (r - b64.qmin).toNat = (q' - r' - (q - r)).toNat + T := ⟨(min ((q - b64.qmin) + (r' - b64.qmin)) ((q' - b64.qmin) + (r - b64.qmin))).toNat, by omega, by omega⟩
      obtain ⟨T, g1, g2⟩ := g1
      refine Nat.eq_of_mul_eq_mul_right (Nat.two_pow_pos T) ?_
      calc c * d' * 2 ^ (q - r - (q' - r')).toNat * 2 ^ T = (c * 2 ^ (q - b64.qmin).toNat) * (d' * 2 ^ (r' - b64.qmin).toNat) := by rw [Nat.mul_assoc, ← Nat.pow_add, ← g1, Nat.pow_add]; ac_rfl
        _ = (c' * 2 ^ (q' - b64.qmin).toNat) * (d * 2 ^ (r - b64.qmin).toNat) := ha
        _ = c' * d * 2 ^ (q' - r' - (q - r)).toNat * 2 ^ T := by rw [Nat.mul_assoc (c' * d), ← Nat.pow_add, ← g2, Nat.pow_add]; ac_rfl
    rw [e]
    rcases roundRatio_cases b64 (s != t) c' d' (q' - r') with ⟨a, b, g⟩ | g <;> rcases roundRatio_cases b64 (s' != t') c' d' (q' - r') with ⟨a', b', g'⟩ | g'
    all_goals first
      | (have := negate_roundRatio b64 (s' != t') c' d' (q' - r')
         by_cases w : (s != t) = (s' != t')
         · rw [w]
         · rw [show (s != t) = !(s' != t') by cases s <;> cases t <;> cases s' <;> cases t' <;> simp_all, ← this]
           rw [g']; rfl)
  rw [zv_sgn (Core.ddiv x y), zv_sgn (Core.ddiv x' y'), hm, hsg, hsg']
  by_cases h0 : (zv (Core.ddiv x' y')).natAbs = 0
  · rw [h0, signed_zero, signed_zero]
  · by_cases hx0 : (zv x').natAbs = 0
    · exfalso; apply h0
      have := div_mag_le (V := (0 : UInt64)) hx' hy' hz' (by rw [val64_zero]; exact Datum.noConfusion) (by rw [hx0, Nat.zero_mul]; exact Nat.zero_le _)
      have z0 : zv 0 = 0 := zval64_zero
      rw [z0] at this; simpa using this
    · congr 1
      have hy1 : (zv y).natAbs ≠ 0 := fun q => hz (Int.natAbs_eq_zero.mp q)
      have k : signed (sgn (val64 x) != sgn (val64 y')) ((zv x').natAbs * (zv y).natAbs) = signed (sgn (val64 x') != sgn (val64 y)) ((zv x').natAbs * (zv y).natAbs) := by
        rw [← ha, signed_xor, ha, signed_xor, ← zv_sgn, ← zv_sgn, ← zv_sgn, ← zv_sgn]; exact h
      have k2 := signed_inj (Nat.mul_ne_zero hx0 hy1) k
      revert k2
      generalize sgn (val64 x) = a; generalize sgn (val64 y) = b; generalize sgn (val64 x') = a'; generalize sgn (val64 y') = b'
      cases a <;> cases b <;> cases a' <;> cases b' <;> simp
/-- comparisons -/
theorem cv_lt {x y : UInt64} (nx : val64 x ≠ .nan) (ny : val64 y ≠ .nan) (h : zv x < zv y) (o : Jvm.ClassFile.CmpOp) : Jvm.Op.cmpValue (FP.dcmp x y) o = -1 := by
  rw [show FP.dcmp x y = some .lt from dcmp_lt.mpr ⟨nx, ny, h⟩]; cases o <;> rfl
theorem cv_eq {x y : UInt64} (nx : val64 x ≠ .nan) (ny : val64 y ≠ .nan) (h : zv x = zv y) (o : Jvm.ClassFile.CmpOp) : Jvm.Op.cmpValue (FP.dcmp x y) o = 0 := by
  rw [show FP.dcmp x y = some .eq from dcmp_eq.mpr ⟨nx, ny, h⟩]; cases o <;> rfl
theorem cv_gt {x y : UInt64} (nx : val64 x ≠ .nan) (ny : val64 y ≠ .nan) (h : zv y < zv x) (o : Jvm.ClassFile.CmpOp) : Jvm.Op.cmpValue (FP.dcmp x y) o = 1 := by
  rw [show FP.dcmp x y = some .gt from dcmp_gt.mpr ⟨nx, ny, h⟩]; cases o <;> rfl
theorem cv_le {x y : UInt64} (nx : val64 x ≠ .nan) (ny : val64 y ≠ .nan) (h : zv x ≤ zv y) (o : Jvm.ClassFile.CmpOp) : ¬ (0 : Int32) < Jvm.Op.cmpValue (FP.dcmp x y) o := by
  rcases Int.lt_or_eq_of_le h with q | q
  · rw [cv_lt nx ny q]; decide
  · rw [cv_eq nx ny q]; decide
theorem cv_ge {x y : UInt64} (nx : val64 x ≠ .nan) (ny : val64 y ≠ .nan) (h : zv y ≤ zv x) (o : Jvm.ClassFile.CmpOp) : ¬ Jvm.Op.cmpValue (FP.dcmp x y) o < (0 : Int32) := by
  rcases Int.lt_or_eq_of_le h with q | q
  · rw [cv_gt nx ny q]; decide
  · rw [cv_eq nx ny q.symm]; decide
theorem cv_lt' {x y : UInt64} (nx : val64 x ≠ .nan) (ny : val64 y ≠ .nan) (h : zv x < zv y) (o : Jvm.ClassFile.CmpOp) : Jvm.Op.cmpValue (FP.dcmp x y) o < (0 : Int32) := by rw [cv_lt nx ny h]; decide
theorem cv_gt' {x y : UInt64} (nx : val64 x ≠ .nan) (ny : val64 y ≠ .nan) (h : zv y < zv x) (o : Jvm.ClassFile.CmpOp) : (0 : Int32) < Jvm.Op.cmpValue (FP.dcmp x y) o := by rw [cv_gt nx ny h]; decide
theorem zv_lt {i j : Int} {D : Nat} {x y : UInt64} (hx : Ra i D x) (hy : Ra j D y) (hD : 0 < D) (h : i < j) : zv x < zv y := by
  refine Int.lt_of_mul_lt_mul_right (a := (D : Int)) ?_ (by omega)
  rw [hx.2, hy.2]; exact Int.mul_lt_mul_of_pos_right h oz
theorem zv_eq {i j : Int} {D : Nat} {x y : UInt64} (hx : Ra i D x) (hy : Ra j D y) (hD : 0 < D) (h : i = j) : zv x = zv y :=
  mulc (c := (D : Int)) (by omega) (by rw [hx.2, hy.2, h])
theorem Ra.lt {i j : Int} {D : Nat} {x y : UInt64} (hx : Ra i D x) (hy : Ra j D y) (hD : 0 < D) (h : i < j) (o : Jvm.ClassFile.CmpOp) : Jvm.Op.cmpValue (FP.dcmp x y) o = -1 := cv_lt hx.ne_nan hy.ne_nan (zv_lt hx hy hD h) o
theorem Ra.gt {i j : Int} {D : Nat} {x y : UInt64} (hx : Ra i D x) (hy : Ra j D y) (hD : 0 < D) (h : j < i) (o : Jvm.ClassFile.CmpOp) : Jvm.Op.cmpValue (FP.dcmp x y) o = 1 := cv_gt hx.ne_nan hy.ne_nan (zv_lt hy hx hD h) o
theorem Ra.eq {i j : Int} {D : Nat} {x y : UInt64} (hx : Ra i D x) (hy : Ra j D y) (hD : 0 < D) (h : i = j) (o : Jvm.ClassFile.CmpOp) : Jvm.Op.cmpValue (FP.dcmp x y) o = 0 := cv_eq hx.ne_nan hy.ne_nan (zv_eq hx hy hD h) o
theorem zv_le {i j : Int} {D : Nat} {x y : UInt64} (hx : Ra i D x) (hy : Ra j D y) (hD : 0 < D) (h : i ≤ j) : zv x ≤ zv y := by
  rcases Int.lt_or_eq_of_le h with q | q
  · exact Int.le_of_lt (zv_lt hx hy hD q)
  · exact Int.le_of_eq (zv_eq hx hy hD q)
theorem Ra.le {i j : Int} {D : Nat} {x y : UInt64} (hx : Ra i D x) (hy : Ra j D y) (hD : 0 < D) (h : i ≤ j) (o : Jvm.ClassFile.CmpOp) : ¬ (0 : Int32) < Jvm.Op.cmpValue (FP.dcmp x y) o := cv_le hx.ne_nan hy.ne_nan (zv_le hx hy hD h) o
theorem Ra.ge {i j : Int} {D : Nat} {x y : UInt64} (hx : Ra i D x) (hy : Ra j D y) (hD : 0 < D) (h : j ≤ i) (o : Jvm.ClassFile.CmpOp) : ¬ Jvm.Op.cmpValue (FP.dcmp x y) o < (0 : Int32) := cv_ge hx.ne_nan hy.ne_nan (zv_le hy hx hD h) o
theorem Ra.lt' {i j : Int} {D : Nat} {x y : UInt64} (hx : Ra i D x) (hy : Ra j D y) (hD : 0 < D) (h : i < j) (o : Jvm.ClassFile.CmpOp) : Jvm.Op.cmpValue (FP.dcmp x y) o < (0 : Int32) := cv_lt' hx.ne_nan hy.ne_nan (zv_lt hx hy hD h) o
theorem Ra.gt' {i j : Int} {D : Nat} {x y : UInt64} (hx : Ra i D x) (hy : Ra j D y) (hD : 0 < D) (h : j < i) (o : Jvm.ClassFile.CmpOp) : (0 : Int32) < Jvm.Op.cmpValue (FP.dcmp x y) o := cv_gt' hx.ne_nan hy.ne_nan (zv_lt hy hx hD h) o
theorem Ra.of_int {i : Int} {x : UInt64} (h : DInt i x) (hf : DFin x) : Ra i 1 x := ⟨hf, by show zval b64 (val64 x) * _ = _; rw [DInt_zval h]; show _ * (1 : Int) = _; rw [Int.mul_one]⟩
theorem Ra.i2d (a : Int32) : Ra a.toInt 1 (FP.i2d a) := Ra.of_int (i2d_int a) (Core.i2d_fin a)
theorem Ra.l2d {a : Int64} (h : a.toInt.natAbs ≤ 9007199254740992) : Ra a.toInt 1 (FP.l2d a) := Ra.of_int (l2d_int h) (Core.l2d_fin a)
/-- a written constant -/
theorem Ra.lit {x : UInt64} {s : Bool} {c D n : Nat} {q i : Int} {k : Nat} (h : val64 x = .fin s c q) (hD : D = 2 ^ k) (hq : q = -((k + n : Nat) : Int)) (hk : k + n ≤ 1074) (e : signed s c = i * ((2 ^ n : Nat) : Int)) : Ra i D x := by
  refine ⟨⟨s, c, q, h⟩, ?_⟩
  unfold zv
  rw [h]
  show signed s (inUnits c q b64.qmin) * _ = _
  unfold inUnits
  have e2 : n + (q - b64.qmin).toNat + k = 1074 := by rw [qmin_b64]; omega
  rw [signed_mul, e, hD, Int.mul_assoc, Int.mul_assoc, ← Int.natCast_mul, ← Int.natCast_mul, ← Nat.pow_add, ← Nat.pow_add, ← Nat.add_assoc, e2]
  rfl
theorem zv_neg (x : UInt64) : zv (FP.dneg x) = -zv x := by unfold zv; rw [Jvm.FP.val64_dneg, zval_negate]
theorem Ra.neg {i : Int} {D : Nat} {x : UInt64} (h : Ra i D x) : Ra (-i) D (FP.dneg x) := by
  obtain ⟨⟨s, c, q, ex⟩, e⟩ := h
  exact ⟨⟨!s, c, q, by rw [Jvm.FP.val64_dneg, ex]; rfl⟩, by rw [zv_neg, Int.neg_mul, e, Int.neg_mul]⟩
/-- exact products of longs -/
theorem lmul_of {x y : Int64} {a b : Int} (hx : x.toInt = a) (hy : y.toInt = b) (h1 : -9223372036854775808 ≤ a * b) (h2 : a * b < 9223372036854775808) : (x * y).toInt = a * b := by
  rw [int64_mul (by rw [hx, hy]; exact h1) (by rw [hx, hy]; exact h2), hx, hy]
theorem ladd_of {x y : Int64} {a b : Int} (hx : x.toInt = a) (hy : y.toInt = b) (h1 : -9223372036854775808 ≤ a + b) (h2 : a + b < 9223372036854775808) : (x + y).toInt = a + b := by
  rw [int64_add (by rw [hx, hy]; exact h1) (by rw [hx, hy]; exact h2), hx, hy]
theorem lsub_of {x y : Int64} {a b : Int} (hx : x.toInt = a) (hy : y.toInt = b) (h1 : -9223372036854775808 ≤ a - b) (h2 : a - b < 9223372036854775808) : (x - y).toInt = a - b := by
  rw [int64_sub (by rw [hx, hy]; exact h1) (by rw [hx, hy]; exact h2), hx, hy]
theorem lneg_of {x : Int64} {a : Int} (hx : x.toInt = a) (h1 : -9223372036854775808 < a) : (-x).toInt = -a := by
  rw [int64_neg (by rw [hx]; exact h1), hx]
theorem i2l_of {x : Int32} {a : Int} (hx : x.toInt = a) : x.toInt64.toInt = a := by rw [Int32.toInt_toInt64, hx]
theorem fin_of_le {x V : UInt64} (hn : val64 x ≠ .nan) (hV : DFin V) (h : (zv x).natAbs ≤ (zv V).natAbs) : DFin x := by
  cases hx : val64 x with
  | nan => exact absurd hx hn
  | fin s c q => exact ⟨s, c, q, hx⟩
  | inf s =>
    exfalso
    have h1 := hV.zval_lt
    rw [zv_abs, zv_abs, hx] at h
    exact absurd (Nat.lt_of_le_of_lt h h1) (Nat.lt_irrefl _)
/-- a bound on the worth bounds the bits -/
theorem mag_of {x : UInt64} {n : Nat} (hx : DFin x) (h : (zv x).natAbs ≤ 2 ^ n * one64) : Mag64 (n + 1024) x := by
  have z := zmag_bits hx.ne_nan
  rw [zv_abs, z] at h
  have hs : unitsOf b64 ((n + 1024) * b64.tails) = b64.tails * 2 ^ (n + 1024 - 1) := unitsOf_start (by omega)
  have ho : 2 ^ n * one64 < b64.tails * 2 ^ (n + 1024 - 1) := by
    rw [tails_b64, ← pow_qmin64, ← Nat.pow_add, ← Nat.pow_add, qmin_b64]
    exact Nat.pow_lt_pow_right (by decide) (by omega)
  have hl : unitsOf b64 (x.toNat % 2 ^ 63) < unitsOf b64 ((n + 1024) * b64.tails) := by rw [hs]; exact Nat.lt_of_le_of_lt h ho
  have hb := unitsOf_lt_iff.mp hl
  rw [tails_b64] at hb
  unfold Mag64
  exact hb
theorem Ra.mag {i : Int} {D n : Nat} {x : UInt64} (h : Ra i D x) (hD : 0 < D) (hi : i.natAbs ≤ 2 ^ n * D) : Mag64 (n + 1024) x := by
  refine mag_of h.1 (Nat.le_of_mul_le_mul_right (c := D) ?_ hD)
  have e := congrArg Int.natAbs h.2
  rw [Int.natAbs_mul, Int.natAbs_mul, Int.natAbs_natCast, Int.natAbs_natCast] at e
  rw [e]
  exact al_mag hi
theorem big_of {x : UInt64} (hx : DFin x) (h : one64 ≤ (zv x).natAbs) : Jvm.RoadKit.Big64 1023 x := by
  have z := zmag_bits hx.ne_nan
  rw [zv_abs, z] at h
  have hs : unitsOf b64 (1023 * b64.tails) = b64.tails * 2 ^ (1023 - 1) := unitsOf_start (by decide)
  have ho : b64.tails * 2 ^ (1023 - 1) = one64 := by rw [tails_b64, ← pow_qmin64, ← Nat.pow_add, qmin_b64]; rfl
  have hl : unitsOf b64 (1023 * b64.tails) ≤ unitsOf b64 (x.toNat % 2 ^ 63) := by rw [hs, ho]; exact h
  have hb := unitsOf_le_iff.mp hl
  rw [tails_b64] at hb
  have hf := (fin_bits x).mp hx
  exact ⟨hb, by omega⟩
theorem Ra.big {i : Int} {x : UInt64} (h : Ra i 1 x) (hi : i ≠ 0) : Jvm.RoadKit.Big64 1023 x := by
  refine big_of h.1 ?_
  have e := congrArg Int.natAbs h.2
  rw [Int.natAbs_mul, Int.natAbs_mul, Int.natAbs_natCast, Int.natAbs_natCast, Nat.mul_one] at e
  rw [e]
  exact Nat.le_mul_of_pos_left _ (Int.natAbs_pos.mpr hi)
theorem ra_zero : Ra 0 1 (0 : UInt64) := ⟨⟨_, _, _, val64_zero⟩, by rw [show zv 0 = 0 from zval64_zero, Int.zero_mul, Int.zero_mul]⟩
theorem ra_one : Ra 1 1 (4607182418800017408 : UInt64) := Ra.lit (s := false) (c := 4503599627370496) (q := -52) (k := 0) (n := 52) (by decide +kernel) rfl (by decide) (by decide) (by decide)
theorem ra_two : Ra 2 1 (4611686018427387904 : UInt64) := Ra.lit (s := false) (c := 4503599627370496) (q := -51) (k := 0) (n := 51) (by decide +kernel) rfl (by decide) (by decide) (by decide)
end Jvm.OwnFP
namespace Jvm.OwnSC
open Jvm Sem Jvm.OwnFP Jvm.Free.Fl
abbrev OwnSt := Int32 × List Value × List Value × List Value
def S0 : OwnSt := ((0 : Int32), [.int (0 : Int32), .int (0 : Int32), .int (0 : Int32), .int (0 : Int32)], [.int (0 : Int32), .int (0 : Int32), .int (0 : Int32), .int (0 : Int32)], [.double (0 : UInt64), .double (0 : UInt64), .double (0 : UInt64), .double (0 : UInt64)])
/-- one turn over the row r: what the values held there, what they hold then -/
def TurnR (A B : OwnSt) (r : Int32) (dx dy : UInt64) : Prop :=
  (¬ r < 0 ∧ r < (4 : Int32)) ∧ A.2.2.2.getD r.toNatClampNeg (.double (0 : UInt64)) = .double dx ∧ r.toNatClampNeg < A.2.2.2.length ∧ (A.2.2.2.set r.toNatClampNeg (.double dy)) = B.2.2.2 ∧
  ((A.2.2.1.getD r.toNatClampNeg (.int (0 : Int32)) = .int (1 : Int32) ∧ A.1 = B.1 ∧ A.2.1 = B.2.1 ∧ A.2.2.1 = B.2.2.1) ∨
   (A.2.2.1.getD r.toNatClampNeg (.int (0 : Int32)) = .int (0 : Int32) ∧ r.toNatClampNeg < A.2.2.1.length ∧ (A.2.2.1.set r.toNatClampNeg (.int (1 : Int32))) = B.2.2.1 ∧ (¬ A.1 < 0 ∧ A.1 < (4 : Int32)) ∧ A.1.toNatClampNeg < A.2.1.length ∧ (A.2.1.set A.1.toNatClampNeg (.int r)) = B.2.1 ∧ (A.1 + (1 : Int32)) = B.1))
def AddR (A B : OwnSt) (i : Int32) (d0 : UInt64) : Prop := ∃ dx, NoNaN64 (FP.dadd dx d0) ∧ TurnR A B i dx (FP.dadd dx d0)
def CondR (A B : OwnSt) (fl i : Int32) (d0 : UInt64) : Prop := (fl = (0 : Int32) ∧ A = B) ∨ (¬ (fl = (0 : Int32)) ∧ AddR A B i d0)
def OneR (A B : OwnSt) (ix rw : Int32) (us : List Value) (fa : UInt64) : Prop :=
  ∃ u dx, (¬ ix < 0 ∧ ix < (3 : Int32)) ∧ us.getD ix.toNatClampNeg (.double (0 : UInt64)) = .double u ∧ NoNaN64 (FP.dmul u fa) ∧ NoNaN64 (FP.dsub dx (FP.dmul u fa)) ∧ TurnR A B rw dx (FP.dsub dx (FP.dmul u fa))
def SubR (A F : OwnSt) (fr tt : Int32) (ts us : List Value) (fa : UInt64) : Prop :=
  (¬ (fr < tt) ∧ A = F) ∨
  (fr < tt ∧ ¬ ((fr + (1 : Int32)) < tt) ∧ ∃ rw0, (¬ fr < 0 ∧ fr < (3 : Int32)) ∧ ts.getD fr.toNatClampNeg (.int (0 : Int32)) = .int rw0 ∧ OneR A F fr rw0 us fa) ∨
  (fr < tt ∧ (fr + (1 : Int32)) < tt ∧ ¬ (((fr + (1 : Int32)) + (1 : Int32)) < tt) ∧ ∃ B1 rw0 rw1, (¬ fr < 0 ∧ fr < (3 : Int32)) ∧ ts.getD fr.toNatClampNeg (.int (0 : Int32)) = .int rw0 ∧ OneR A B1 fr rw0 us fa ∧
    (¬ (fr + (1 : Int32)) < 0 ∧ (fr + (1 : Int32)) < (3 : Int32)) ∧ ts.getD (fr + (1 : Int32)).toNatClampNeg (.int (0 : Int32)) = .int rw1 ∧ OneR B1 F (fr + (1 : Int32)) rw1 us fa) ∨
  (fr < tt ∧ (fr + (1 : Int32)) < tt ∧ ((fr + (1 : Int32)) + (1 : Int32)) < tt ∧ ¬ ((((fr + (1 : Int32)) + (1 : Int32)) + (1 : Int32)) < tt) ∧ ∃ B1 B2 rw0 rw1 rw2, (¬ fr < 0 ∧ fr < (3 : Int32)) ∧ ts.getD fr.toNatClampNeg (.int (0 : Int32)) = .int rw0 ∧ OneR A B1 fr rw0 us fa ∧
    (¬ (fr + (1 : Int32)) < 0 ∧ (fr + (1 : Int32)) < (3 : Int32)) ∧ ts.getD (fr + (1 : Int32)).toNatClampNeg (.int (0 : Int32)) = .int rw1 ∧ OneR B1 B2 (fr + (1 : Int32)) rw1 us fa ∧
    (¬ ((fr + (1 : Int32)) + (1 : Int32)) < 0 ∧ ((fr + (1 : Int32)) + (1 : Int32)) < (3 : Int32)) ∧ ts.getD ((fr + (1 : Int32)) + (1 : Int32)).toNatClampNeg (.int (0 : Int32)) = .int rw2 ∧ OneR B2 F ((fr + (1 : Int32)) + (1 : Int32)) rw2 us fa)
def le (rr pa pb i1 i2 ia ib ic r0 r1 r2 : Int32) : Int32 :=
  if (¬ (pa = (0 : Int32)) ∧ i1 = rr) ∨ (¬ (pb = (0 : Int32)) ∧ i2 = rr) ∨ (¬ (ia = (0 : Int32)) ∧ r0 = rr) ∨ (¬ (ib = (0 : Int32)) ∧ r1 = rr) ∨ (¬ (ic = (0 : Int32)) ∧ r2 = rr) then (1 : Int32) else (0 : Int32)
def pr (cc rr q0 q1 q2 q3 : Int32) : Int32 :=
  if ((0 : Int32) < cc ∧ q0 = rr) ∨ ((1 : Int32) < cc ∧ q1 = rr) ∨ ((2 : Int32) < cc ∧ q2 = rr) ∨ ((3 : Int32) < cc ∧ q3 = rr) then (1 : Int32) else (0 : Int32)
def up (fl row rr : Int32) (e new : UInt64) : UInt64 := if fl = (0 : Int32) then e else (if row = rr then new else e)
def c0 (rr pa i1 : Int32) (w1 : UInt64) : UInt64 := up pa i1 rr (0 : UInt64) (FP.dadd (0 : UInt64) w1)
def c1 (rr pa pb i1 i2 : Int32) (w1 w2 : UInt64) : UInt64 := up pb i2 rr (c0 rr pa i1 w1) (FP.dadd (c0 rr pa i1 w1) w2)
def sb (rr fl r : Int32) (e u fa : UInt64) : UInt64 := up fl r rr e (FP.dsub e (FP.dmul u fa))
def ve (rr pa pb i1 i2 ia ib ic r0 r1 r2 : Int32) (w1 w2 u0 u1 u2 fa : UInt64) : UInt64 := sb rr ic r2 (sb rr ib r1 (sb rr ia r0 (c1 rr pa pb i1 i2 w1 w2) u0 fa) u1 fa) u2 fa
def VN (rr pa pb i1 i2 ia ib ic r0 r1 r2 : Int32) (w1 w2 u0 u1 u2 fa : UInt64) : Prop :=
  NoNaN64 (FP.dadd (0 : UInt64) w1) ∧ NoNaN64 (FP.dadd (c0 rr pa i1 w1) w2) ∧
  NoNaN64 (FP.dmul u0 fa) ∧ NoNaN64 (FP.dsub (c1 rr pa pb i1 i2 w1 w2) (FP.dmul u0 fa)) ∧
  NoNaN64 (FP.dmul u1 fa) ∧ NoNaN64 (FP.dsub (sb rr ia r0 (c1 rr pa pb i1 i2 w1 w2) u0 fa) (FP.dmul u1 fa)) ∧
  NoNaN64 (FP.dmul u2 fa) ∧ NoNaN64 (FP.dsub (sb rr ib r1 (sb rr ia r0 (c1 rr pa pb i1 i2 w1 w2) u0 fa) u1 fa) (FP.dmul u2 fa))
/-! what the column holds, told by two functions of the row -/
abbrev R4 (r : Int32) : Prop := r = 0 ∨ r = 1 ∨ r = 2 ∨ r = 3
def bi (t : Bool) : Int32 := if t = true then (1 : Int32) else (0 : Int32)
def kk (L : Int32 → Bool) : Nat := (L 0).toNat + (L 1).toNat + (L 2).toNat + (L 3).toNat
def PresN (k : Nat) (q0 q1 q2 q3 r : Int32) : Prop := (0 < k ∧ q0 = r) ∨ (1 < k ∧ q1 = r) ∨ (2 < k ∧ q2 = r) ∨ (3 < k ∧ q3 = r)
def Inv (A : OwnSt) (L : Int32 → Bool) (X : Int32 → UInt64) : Prop :=
  A.2.2.2 = [.double (X 0), .double (X 1), .double (X 2), .double (X 3)] ∧ A.2.2.1 = [.int (bi (L 0)), .int (bi (L 1)), .int (bi (L 2)), .int (bi (L 3))] ∧ A.1 = Int32.ofNat (kk L) ∧
  ∃ q0 q1 q2 q3, A.2.1 = [.int q0, .int q1, .int q2, .int q3] ∧ ∀ r, R4 r → (PresN (kk L) q0 q1 q2 q3 r ↔ L r = true)
def Bd (X : Int32 → UInt64) (M : Nat) : Prop := ∀ z, ∃ i : Int, Ra i 1 (X z) ∧ i.natAbs ≤ M
theorem inv0 : Inv S0 (fun _ => false) (fun _ => 0) := ⟨rfl, rfl, rfl, 0, 0, 0, 0, rfl, fun r _ => by simp [PresN, kk]⟩
theorem Inv.congr {A : OwnSt} {L L' : Int32 → Bool} {X X' : Int32 → UInt64} (h : Inv A L X) (hL : ∀ z, L z = L' z) (hX : ∀ z, X z = X' z) : Inv A L' X' := by
  obtain rfl : L = L' := funext hL
  obtain rfl : X = X' := funext hX
  exact h
theorem k4 {k : Nat} (h : k ≤ 3) : (¬ Int32.ofNat k < 0) ∧ Int32.ofNat k < (4 : Int32) ∧ (Int32.ofNat k).toNatClampNeg = k ∧ Int32.ofNat k + (1 : Int32) = Int32.ofNat (k + 1) := by
  have : k = 0 ∨ k = 1 ∨ k = 2 ∨ k = 3 := by omega
  rcases this with rfl | rfl | rfl | rfl <;> decide
theorem r4 {r : Int32} (h : R4 r) : (¬ r < 0 ∧ r < (4 : Int32)) ∧ r.toNatClampNeg < 4 := by rcases h with rfl | rfl | rfl | rfl <;> decide
theorem get4 {f : Int32 → Value} {d : Value} {r : Int32} (h : R4 r) : ([f 0, f 1, f 2, f 3] : List Value).getD r.toNatClampNeg d = f r := by rcases h with rfl | rfl | rfl | rfl <;> rfl
theorem set4 {f g : Int32 → Value} {y : Value} {r : Int32} (h : R4 r) (hy : g r = y) (hg : ∀ z, R4 z → z ≠ r → g z = f z) : ([f 0, f 1, f 2, f 3] : List Value).set r.toNatClampNeg y = [g 0, g 1, g 2, g 3] := by
  have h0 : R4 0 := Or.inl rfl
  have h1 : R4 1 := Or.inr (Or.inl rfl)
  have h2 : R4 2 := Or.inr (Or.inr (Or.inl rfl))
  have h3 : R4 3 := Or.inr (Or.inr (Or.inr rfl))
  subst hy
  rcases h with rfl | rfl | rfl | rfl
  · rw [hg 1 h1 (by decide), hg 2 h2 (by decide), hg 3 h3 (by decide)]; rfl
  · rw [hg 0 h0 (by decide), hg 2 h2 (by decide), hg 3 h3 (by decide)]; rfl
  · rw [hg 0 h0 (by decide), hg 1 h1 (by decide), hg 3 h3 (by decide)]; rfl
  · rw [hg 0 h0 (by decide), hg 1 h1 (by decide), hg 2 h2 (by decide)]; rfl
theorem pres_step {k : Nat} (hk : k ≤ 3) (q0 q1 q2 q3 r : Int32) : ∃ p0 p1 p2 p3, (([.int q0, .int q1, .int q2, .int q3] : List Value).set k (.int r)) = [.int p0, .int p1, .int p2, .int p3] ∧ ∀ z, PresN (k + 1) p0 p1 p2 p3 z ↔ PresN k q0 q1 q2 q3 z ∨ r = z := by
  have : k = 0 ∨ k = 1 ∨ k = 2 ∨ k = 3 := by omega
  rcases this with rfl | rfl | rfl | rfl
  · exact ⟨r, q1, q2, q3, rfl, fun z => by simp [PresN]⟩
  · exact ⟨q0, r, q2, q3, rfl, fun z => by simp [PresN]⟩
  · exact ⟨q0, q1, r, q3, rfl, fun z => by simp [PresN, or_assoc]⟩
  · exact ⟨q0, q1, q2, r, rfl, fun z => by simp [PresN, or_assoc]⟩
theorem tn1 (b : Bool) : b.toNat ≤ 1 := by cases b <;> decide
theorem kk_new {L : Int32 → Bool} {r : Int32} (h : R4 r) (hL : L r = false) : kk (fun z => L z || decide (r = z)) = kk L + 1 ∧ kk L ≤ 3 := by
  have a0 := tn1 (L 0)
  have a1 := tn1 (L 1)
  have a2 := tn1 (L 2)
  have a3 := tn1 (L 3)
  have t : ∀ b : Bool, (b || true).toNat = 1 := fun b => by cases b <;> rfl
  have f : ∀ b : Bool, (b || false).toNat = b.toNat := fun b => by cases b <;> rfl
  show (L 0 || decide (r = 0)).toNat + (L 1 || decide (r = 1)).toNat + (L 2 || decide (r = 2)).toNat + (L 3 || decide (r = 3)).toNat = (L 0).toNat + (L 1).toNat + (L 2).toNat + (L 3).toNat + 1 ∧ (L 0).toNat + (L 1).toNat + (L 2).toNat + (L 3).toNat ≤ 3
  rcases h with rfl | rfl | rfl | rfl
  · rw [show decide ((0 : Int32) = 0) = true by decide, show decide ((0 : Int32) = 1) = false by decide, show decide ((0 : Int32) = 2) = false by decide, show decide ((0 : Int32) = 3) = false by decide, t, f, f, f, hL]; exact ⟨by show _ = 0 + _ + _ + _ + 1; omega, by show 0 + _ + _ + _ ≤ 3; omega⟩
  · rw [show decide ((1 : Int32) = 0) = false by decide, show decide ((1 : Int32) = 1) = true by decide, show decide ((1 : Int32) = 2) = false by decide, show decide ((1 : Int32) = 3) = false by decide, t, f, f, f, hL]; exact ⟨by show _ = _ + 0 + _ + _ + 1; omega, by show _ + 0 + _ + _ ≤ 3; omega⟩
  · rw [show decide ((2 : Int32) = 0) = false by decide, show decide ((2 : Int32) = 1) = false by decide, show decide ((2 : Int32) = 2) = true by decide, show decide ((2 : Int32) = 3) = false by decide, t, f, f, f, hL]; exact ⟨by show _ = _ + _ + 0 + _ + 1; omega, by show _ + _ + 0 + _ ≤ 3; omega⟩
  · rw [show decide ((3 : Int32) = 0) = false by decide, show decide ((3 : Int32) = 1) = false by decide, show decide ((3 : Int32) = 2) = false by decide, show decide ((3 : Int32) = 3) = true by decide, t, f, f, f, hL]; exact ⟨by show _ = _ + _ + _ + 0 + 1; omega, by show _ + _ + _ + 0 ≤ 3; omega⟩
theorem step {A : OwnSt} {L : Int32 → Bool} {X : Int32 → UInt64} (h : Inv A L X) {r : Int32} (hr : R4 r) (d : UInt64) :
    ∃ B, TurnR A B r (X r) d ∧ Inv B (fun z => L z || decide (r = z)) (fun z => if r = z then d else X z) := by
  obtain ⟨cn, rs, ls, vs⟩ := A
  obtain ⟨hv, hl, hc, q0, q1, q2, q3, hq, hp⟩ := h
  dsimp only at hv hl hc hq
  subst hv hl hc hq
  have hvs : ([.double (X 0), .double (X 1), .double (X 2), .double (X 3)] : List Value).set r.toNatClampNeg (.double d) = [.double (if r = 0 then d else X 0), .double (if r = 1 then d else X 1), .double (if r = 2 then d else X 2), .double (if r = 3 then d else X 3)] :=
    set4 (f := fun z => .double (X z)) (g := fun z => .double (if r = z then d else X z)) hr (by rw [if_pos rfl]) (fun z _ hz => by rw [if_neg (fun q => hz q.symm)])
  cases hL : L r with
  | true =>
    have hLL : ∀ z, (L z || decide (r = z)) = L z := fun z => by
      by_cases hz : r = z
      · subst hz; rw [hL]; rfl
      · rw [decide_eq_false hz, Bool.or_false]
    have hLf : (fun z => L z || decide (r = z)) = L := funext hLL
    refine ⟨(_, _, _, _), ⟨(r4 hr).1, get4 (f := fun z => .double (X z)) hr, (r4 hr).2, rfl, Or.inl ⟨?_, rfl, rfl, rfl⟩⟩, hvs, ?_, ?_, q0, q1, q2, q3, rfl, ?_⟩
    · rw [get4 (f := fun z => .int (bi (L z))) hr, hL]; rfl
    · rw [hLf]
    · rw [hLf]
    · rw [hLf]; exact hp
  | false =>
    obtain ⟨k1, k2⟩ := kk_new hr hL
    obtain ⟨k3, k5, k6, k7⟩ := k4 k2
    obtain ⟨p0, p1, p2, p3, e1, e2⟩ := pres_step k2 q0 q1 q2 q3 r
    refine ⟨(Int32.ofNat (kk L) + (1 : Int32), [.int p0, .int p1, .int p2, .int p3], _, _), ⟨(r4 hr).1, get4 (f := fun z => .double (X z)) hr, (r4 hr).2, rfl, Or.inr ⟨?_, (r4 hr).2, rfl, ⟨k3, k5⟩, ?_, ?_, rfl⟩⟩, hvs, ?_, ?_, p0, p1, p2, p3, rfl, ?_⟩
    · rw [get4 (f := fun z => .int (bi (L z))) hr, hL]; rfl
    · show (Int32.ofNat (kk L)).toNatClampNeg < 4; rw [k6]; omega
    · show ([.int q0, .int q1, .int q2, .int q3] : List Value).set (Int32.ofNat (kk L)).toNatClampNeg (.int r) = _; rw [k6]; exact e1
    · exact set4 (f := fun z => .int (bi (L z))) (g := fun z => .int (bi (L z || decide (r = z)))) hr (by rw [decide_eq_true rfl, Bool.or_true]; rfl) (fun z _ hz => by rw [decide_eq_false (fun q => hz q.symm), Bool.or_false])
    · rw [k1]; exact k7
    · intro z hz
      rw [k1, e2 z, hp z hz, Bool.or_eq_true, decide_eq_true_iff]
theorem addStep {A : OwnSt} {L : Int32 → Bool} {X : Int32 → UInt64} {M : Nat} (h : Inv A L X) (hB : Bd X M) (hM : M ≤ 1000000000) {i : Int32} (hi : R4 i) {w : Int} {d0 : UInt64} (hd : Ra w 1 d0) (hw : w.natAbs ≤ 128) :
    ∃ B, AddR A B i d0 ∧ Inv B (fun z => L z || decide (i = z)) (fun z => if i = z then FP.dadd (X z) d0 else X z) ∧ Bd (fun z => if i = z then FP.dadd (X z) d0 else X z) (M + 128) := by
  have key : ∀ z, ∃ j : Int, Ra j 1 (FP.dadd (X z) d0) ∧ j.natAbs ≤ M + 128 := fun z => by
    obtain ⟨j, hj, bj⟩ := hB z
    exact ⟨j + w, Ra.add (k := 0) hj hd (by omega) rfl (by decide), by omega⟩
  obtain ⟨B, hT, hI⟩ := step h hi (FP.dadd (X i) d0)
  refine ⟨B, ⟨X i, ?_, hT⟩, hI.congr (fun _ => rfl) (fun z => ?_), fun z => ?_⟩
  · obtain ⟨j, hj, -⟩ := key i; exact hj.nn
  · by_cases q : i = z
    · subst q; rfl
    · rw [if_neg q, if_neg q]
  · show ∃ j : Int, Ra j 1 (if i = z then FP.dadd (X z) d0 else X z) ∧ j.natAbs ≤ M + 128
    by_cases q : i = z
    · rw [if_pos q]; exact key z
    · rw [if_neg q]; obtain ⟨j, hj, bj⟩ := hB z; exact ⟨j, hj, by omega⟩
theorem condStep {A : OwnSt} {L : Int32 → Bool} {X : Int32 → UInt64} {M : Nat} (h : Inv A L X) (hB : Bd X M) (hM : M ≤ 1000000000) (fl : Int32) {i : Int32} (hi : R4 i) {w : Int} {d0 : UInt64} (hd : Ra w 1 d0) (hw : w.natAbs ≤ 128) :
    ∃ B, CondR A B fl i d0 ∧ Inv B (fun z => L z || (decide (¬ (fl = (0 : Int32))) && decide (i = z))) (fun z => up fl i z (X z) (FP.dadd (X z) d0)) ∧ Bd (fun z => up fl i z (X z) (FP.dadd (X z) d0)) (M + 128) := by
  by_cases hf : fl = (0 : Int32)
  · refine ⟨A, Or.inl ⟨hf, rfl⟩, h.congr (fun z => ?_) (fun z => ?_), fun z => ?_⟩
    · rw [decide_eq_false (fun q => q hf), Bool.false_and, Bool.or_false]
    · show X z = up fl i z _ _; unfold up; rw [if_pos hf]
    · show ∃ j : Int, Ra j 1 (up fl i z _ _) ∧ _
      unfold up; rw [if_pos hf]; obtain ⟨j, hj, bj⟩ := hB z; exact ⟨j, hj, by omega⟩
  · obtain ⟨B, h1, h2, h3⟩ := addStep h hB hM hi hd hw
    have e : ∀ z, (if i = z then FP.dadd (X z) d0 else X z) = up fl i z (X z) (FP.dadd (X z) d0) := fun z => by unfold up; rw [if_neg hf]
    refine ⟨B, Or.inr ⟨hf, h1⟩, h2.congr (fun z => ?_) e, fun z => ?_⟩
    · rw [decide_eq_true hf, Bool.true_and]
    · show ∃ j : Int, Ra j 1 (up fl i z _ _) ∧ _; rw [← e z]; exact h3 z
theorem prodR {u fa : UInt64} {a b : Int} (hu : Ra a 1 u) (hf : Ra b 1 fa) (ba : a.natAbs ≤ 128) (bb : b.natAbs ≤ 32768) : Ra (a * b) 1 (FP.dmul u fa) ∧ (a * b).natAbs ≤ 4194304 := by
  have m : (a * b).natAbs ≤ 128 * 32768 := by rw [Int.natAbs_mul]; exact Nat.mul_le_mul ba bb
  exact ⟨Ra.mul (k := 0) hu hf (by omega) rfl (by decide), by omega⟩
theorem oneStep {A : OwnSt} {L : Int32 → Bool} {X : Int32 → UInt64} {M : Nat} (h : Inv A L X) (hB : Bd X M) (hM : M ≤ 1000000000) {r : Int32} (hr : R4 r) {a b : Int} {u fa : UInt64} (hu : Ra a 1 u) (hf : Ra b 1 fa) (ba : a.natAbs ≤ 128) (bb : b.natAbs ≤ 32768) {ix : Int32} {us : List Value} (hi : ¬ ix < 0 ∧ ix < (3 : Int32)) (hus : us.getD ix.toNatClampNeg (.double (0 : UInt64)) = .double u) :
    ∃ B, OneR A B ix r us fa ∧ Inv B (fun z => L z || decide (r = z)) (fun z => if r = z then FP.dsub (X z) (FP.dmul u fa) else X z) ∧ Bd (fun z => if r = z then FP.dsub (X z) (FP.dmul u fa) else X z) (M + 4194304) := by
  obtain ⟨hp, bp⟩ := prodR hu hf ba bb
  have key : ∀ z, ∃ j : Int, Ra j 1 (FP.dsub (X z) (FP.dmul u fa)) ∧ j.natAbs ≤ M + 4194304 := fun z => by
    obtain ⟨j, hj, bj⟩ := hB z
    exact ⟨j - a * b, Ra.sub (k := 0) hj hp (by omega) rfl (by decide), by omega⟩
  obtain ⟨B, hT, hI⟩ := step h hr (FP.dsub (X r) (FP.dmul u fa))
  refine ⟨B, ⟨u, X r, hi, hus, hp.nn, ?_, hT⟩, hI.congr (fun _ => rfl) (fun z => ?_), fun z => ?_⟩
  · obtain ⟨j, hj, -⟩ := key r; exact hj.nn
  · by_cases q : r = z
    · subst q; rfl
    · rw [if_neg q, if_neg q]
  · show ∃ j : Int, Ra j 1 (if r = z then FP.dsub (X z) (FP.dmul u fa) else X z) ∧ j.natAbs ≤ M + 4194304
    by_cases q : r = z
    · rw [if_pos q]; exact key z
    · rw [if_neg q]; obtain ⟨j, hj, bj⟩ := hB z; exact ⟨j, hj, by omega⟩
theorem sb_no {rr r : Int32} {e u fa : UInt64} : sb rr (0 : Int32) r e u fa = e := by unfold sb up; rw [if_pos rfl]
theorem sb_yes {rr r : Int32} {e u fa : UInt64} : sb rr (1 : Int32) r e u fa = (if r = rr then FP.dsub e (FP.dmul u fa) else e) := by unfold sb up; rw [if_neg (by decide)]
theorem oand0 {x y : Bool} : (x || (decide (¬ ((0 : Int32) = (0 : Int32))) && y)) = x := by cases x <;> cases y <;> rfl
theorem oand1 {x y : Bool} : (x || (decide (¬ ((1 : Int32) = (0 : Int32))) && y)) = (x || y) := by cases x <;> cases y <;> rfl
/-- the flag 'the term j lies in the range' -/
def inn (fr tt j : Int32) : Int32 := if j < fr then (0 : Int32) else (if j < tt then (1 : Int32) else (0 : Int32))
theorem subStep {A : OwnSt} {L : Int32 → Bool} {X : Int32 → UInt64} {M : Nat} (h : Inv A L X) (hB : Bd X M) (hM : M ≤ 1000) {fr tt r0 r1 r2 : Int32} (hfr : R4 fr) (htt : R4 tt) (h0 : R4 r0) (h1 : R4 r1) (h2 : R4 r2) {a0 a1 a2 b : Int} {u0 u1 u2 fa : UInt64} (hu0 : Ra a0 1 u0) (hu1 : Ra a1 1 u1) (hu2 : Ra a2 1 u2) (hf : Ra b 1 fa) (ba0 : a0.natAbs ≤ 128) (ba1 : a1.natAbs ≤ 128) (ba2 : a2.natAbs ≤ 128) (bb : b.natAbs ≤ 32768) :
    ∃ F, SubR A F fr tt [.int r0, .int r1, .int r2] [.double u0, .double u1, .double u2] fa ∧
      Inv F (fun z => ((L z || (decide (¬ (inn fr tt 0 = (0 : Int32))) && decide (r0 = z))) || (decide (¬ (inn fr tt 1 = (0 : Int32))) && decide (r1 = z))) || (decide (¬ (inn fr tt 2 = (0 : Int32))) && decide (r2 = z)))
        (fun z => sb z (inn fr tt 2) r2 (sb z (inn fr tt 1) r1 (sb z (inn fr tt 0) r0 (X z) u0 fa) u1 fa) u2 fa) := by
  rcases hfr with rfl | rfl | rfl | rfl
  · rcases htt with rfl | rfl | rfl | rfl
    · rw [show inn 0 0 0 = 0 by decide, show inn 0 0 1 = 0 by decide, show inn 0 0 2 = 0 by decide]
      exact ⟨A, Or.inl ⟨by decide, rfl⟩, h.congr (fun z => by rw [oand0, oand0, oand0]) (fun z => by simp only [sb_no])⟩
    · rw [show inn 0 1 0 = 1 by decide, show inn 0 1 1 = 0 by decide, show inn 0 1 2 = 0 by decide]
      obtain ⟨B1, o1, I1, M1⟩ := oneStep h hB (by omega) h0 hu0 hf ba0 bb (ix := (0 : Int32)) (us := [.double u0, .double u1, .double u2]) (by decide) rfl
      exact ⟨B1, Or.inr (Or.inl ⟨by decide, by decide, r0, by decide, rfl, o1⟩), I1.congr (fun z => by rw [oand0, oand0, oand1]) (fun z => by simp only [sb_no, sb_yes])⟩
    · rw [show inn 0 2 0 = 1 by decide, show inn 0 2 1 = 1 by decide, show inn 0 2 2 = 0 by decide]
      obtain ⟨B1, o1, I1, M1⟩ := oneStep h hB (by omega) h0 hu0 hf ba0 bb (ix := (0 : Int32)) (us := [.double u0, .double u1, .double u2]) (by decide) rfl
      obtain ⟨B2, o2, I2, M2⟩ := oneStep I1 M1 (by omega) h1 hu1 hf ba1 bb (ix := ((0 : Int32) + (1 : Int32))) (us := [.double u0, .double u1, .double u2]) (by decide) rfl
      exact ⟨B2, Or.inr (Or.inr (Or.inl ⟨by decide, by decide, by decide, B1, r0, r1, by decide, rfl, o1, by decide, rfl, o2⟩)), I2.congr (fun z => by rw [oand0, oand1, oand1]) (fun z => by simp only [sb_no, sb_yes])⟩
    · rw [show inn 0 3 0 = 1 by decide, show inn 0 3 1 = 1 by decide, show inn 0 3 2 = 1 by decide]
      obtain ⟨B1, o1, I1, M1⟩ := oneStep h hB (by omega) h0 hu0 hf ba0 bb (ix := (0 : Int32)) (us := [.double u0, .double u1, .double u2]) (by decide) rfl
      obtain ⟨B2, o2, I2, M2⟩ := oneStep I1 M1 (by omega) h1 hu1 hf ba1 bb (ix := ((0 : Int32) + (1 : Int32))) (us := [.double u0, .double u1, .double u2]) (by decide) rfl
      obtain ⟨B3, o3, I3, M3⟩ := oneStep I2 M2 (by omega) h2 hu2 hf ba2 bb (ix := (((0 : Int32) + (1 : Int32)) + (1 : Int32))) (us := [.double u0, .double u1, .double u2]) (by decide) rfl
      exact ⟨B3, Or.inr (Or.inr (Or.inr ⟨by decide, by decide, by decide, by decide, B1, B2, r0, r1, r2, by decide, rfl, o1, by decide, rfl, o2, by decide, rfl, o3⟩)), I3.congr (fun z => by rw [oand1, oand1, oand1]) (fun z => by simp only [sb_no, sb_yes])⟩
  · rcases htt with rfl | rfl | rfl | rfl
    · rw [show inn 1 0 0 = 0 by decide, show inn 1 0 1 = 0 by decide, show inn 1 0 2 = 0 by decide]
      exact ⟨A, Or.inl ⟨by decide, rfl⟩, h.congr (fun z => by rw [oand0, oand0, oand0]) (fun z => by simp only [sb_no])⟩
    · rw [show inn 1 1 0 = 0 by decide, show inn 1 1 1 = 0 by decide, show inn 1 1 2 = 0 by decide]
      exact ⟨A, Or.inl ⟨by decide, rfl⟩, h.congr (fun z => by rw [oand0, oand0, oand0]) (fun z => by simp only [sb_no])⟩
    · rw [show inn 1 2 0 = 0 by decide, show inn 1 2 1 = 1 by decide, show inn 1 2 2 = 0 by decide]
      obtain ⟨B1, o1, I1, M1⟩ := oneStep h hB (by omega) h1 hu1 hf ba1 bb (ix := (1 : Int32)) (us := [.double u0, .double u1, .double u2]) (by decide) rfl
      exact ⟨B1, Or.inr (Or.inl ⟨by decide, by decide, r1, by decide, rfl, o1⟩), I1.congr (fun z => by rw [oand0, oand0, oand1]) (fun z => by simp only [sb_no, sb_yes])⟩
    · rw [show inn 1 3 0 = 0 by decide, show inn 1 3 1 = 1 by decide, show inn 1 3 2 = 1 by decide]
      obtain ⟨B1, o1, I1, M1⟩ := oneStep h hB (by omega) h1 hu1 hf ba1 bb (ix := (1 : Int32)) (us := [.double u0, .double u1, .double u2]) (by decide) rfl
      obtain ⟨B2, o2, I2, M2⟩ := oneStep I1 M1 (by omega) h2 hu2 hf ba2 bb (ix := ((1 : Int32) + (1 : Int32))) (us := [.double u0, .double u1, .double u2]) (by decide) rfl
      exact ⟨B2, Or.inr (Or.inr (Or.inl ⟨by decide, by decide, by decide, B1, r1, r2, by decide, rfl, o1, by decide, rfl, o2⟩)), I2.congr (fun z => by rw [oand0, oand1, oand1]) (fun z => by simp only [sb_no, sb_yes])⟩
  · rcases htt with rfl | rfl | rfl | rfl
    · rw [show inn 2 0 0 = 0 by decide, show inn 2 0 1 = 0 by decide, show inn 2 0 2 = 0 by decide]
      exact ⟨A, Or.inl ⟨by decide, rfl⟩, h.congr (fun z => by rw [oand0, oand0, oand0]) (fun z => by simp only [sb_no])⟩
    · rw [show inn 2 1 0 = 0 by decide, show inn 2 1 1 = 0 by decide, show inn 2 1 2 = 0 by decide]
      exact ⟨A, Or.inl ⟨by decide, rfl⟩, h.congr (fun z => by rw [oand0, oand0, oand0]) (fun z => by simp only [sb_no])⟩
    · rw [show inn 2 2 0 = 0 by decide, show inn 2 2 1 = 0 by decide, show inn 2 2 2 = 0 by decide]
      exact ⟨A, Or.inl ⟨by decide, rfl⟩, h.congr (fun z => by rw [oand0, oand0, oand0]) (fun z => by simp only [sb_no])⟩
    · rw [show inn 2 3 0 = 0 by decide, show inn 2 3 1 = 0 by decide, show inn 2 3 2 = 1 by decide]
      obtain ⟨B1, o1, I1, M1⟩ := oneStep h hB (by omega) h2 hu2 hf ba2 bb (ix := (2 : Int32)) (us := [.double u0, .double u1, .double u2]) (by decide) rfl
      exact ⟨B1, Or.inr (Or.inl ⟨by decide, by decide, r2, by decide, rfl, o1⟩), I1.congr (fun z => by rw [oand0, oand0, oand1]) (fun z => by simp only [sb_no, sb_yes])⟩
  · rcases htt with rfl | rfl | rfl | rfl
    · rw [show inn 3 0 0 = 0 by decide, show inn 3 0 1 = 0 by decide, show inn 3 0 2 = 0 by decide]
      exact ⟨A, Or.inl ⟨by decide, rfl⟩, h.congr (fun z => by rw [oand0, oand0, oand0]) (fun z => by simp only [sb_no])⟩
    · rw [show inn 3 1 0 = 0 by decide, show inn 3 1 1 = 0 by decide, show inn 3 1 2 = 0 by decide]
      exact ⟨A, Or.inl ⟨by decide, rfl⟩, h.congr (fun z => by rw [oand0, oand0, oand0]) (fun z => by simp only [sb_no])⟩
    · rw [show inn 3 2 0 = 0 by decide, show inn 3 2 1 = 0 by decide, show inn 3 2 2 = 0 by decide]
      exact ⟨A, Or.inl ⟨by decide, rfl⟩, h.congr (fun z => by rw [oand0, oand0, oand0]) (fun z => by simp only [sb_no])⟩
    · rw [show inn 3 3 0 = 0 by decide, show inn 3 3 1 = 0 by decide, show inn 3 3 2 = 0 by decide]
      exact ⟨A, Or.inl ⟨by decide, rfl⟩, h.congr (fun z => by rw [oand0, oand0, oand0]) (fun z => by simp only [sb_no])⟩
theorem le_of (rr pa pb i1 i2 ia ib ic r0 r1 r2 : Int32) : le rr pa pb i1 i2 ia ib ic r0 r1 r2 = bi (((((false || (decide (¬ (pa = (0 : Int32))) && decide (i1 = rr))) || (decide (¬ (pb = (0 : Int32))) && decide (i2 = rr))) || (decide (¬ (ia = (0 : Int32))) && decide (r0 = rr))) || (decide (¬ (ib = (0 : Int32))) && decide (r1 = rr))) || (decide (¬ (ic = (0 : Int32))) && decide (r2 = rr))) := by
  unfold le bi
  congr 1
  simp only [Bool.or_eq_true, Bool.and_eq_true, decide_eq_true_iff, Bool.false_or, or_assoc]
theorem pr_of {L : Int32 → Bool} {q0 q1 q2 q3 r : Int32} (hr : R4 r) (hp : ∀ r, R4 r → (PresN (kk L) q0 q1 q2 q3 r ↔ L r = true)) : pr (Int32.ofNat (kk L)) r q0 q1 q2 q3 = bi (L r) := by
  have a0 := tn1 (L 0)
  have a1 := tn1 (L 1)
  have a2 := tn1 (L 2)
  have a3 := tn1 (L 3)
  have hk : kk L ≤ 4 := by unfold kk; omega
  have e : (((0 : Int32) < Int32.ofNat (kk L) ∧ q0 = r) ∨ ((1 : Int32) < Int32.ofNat (kk L) ∧ q1 = r) ∨ ((2 : Int32) < Int32.ofNat (kk L) ∧ q2 = r) ∨ ((3 : Int32) < Int32.ofNat (kk L) ∧ q3 = r)) ↔ L r = true := by
    rw [← hp r hr]
    unfold PresN
    generalize kk L = k at hk
    have : k = 0 ∨ k = 1 ∨ k = 2 ∨ k = 3 ∨ k = 4 := by omega
    rcases this with rfl | rfl | rfl | rfl | rfl <;> exact ⟨fun q => by simpa +decide using q, fun q => by simpa +decide using q⟩
  unfold pr bi
  by_cases q : L r = true
  · rw [if_pos (e.mpr q), if_pos q]
  · rw [if_neg (fun z => q (e.mp z)), if_neg q]
theorem cnt_of (L : Int32 → Bool) : Int32.ofNat (kk L) = ((((if bi (L 0) = (0 : Int32) then (0 : Int32) else (1 : Int32)) + (if bi (L 1) = (0 : Int32) then (0 : Int32) else (1 : Int32))) + (if bi (L 2) = (0 : Int32) then (0 : Int32) else (1 : Int32))) + (if bi (L 3) = (0 : Int32) then (0 : Int32) else (1 : Int32))) ∧ ¬ (Int32.ofNat (kk L) < (0 : Int32)) ∧ ¬ ((4 : Int32) < Int32.ofNat (kk L)) := by
  unfold kk
  cases L 0 <;> cases L 1 <;> cases L 2 <;> cases L 3 <;> decide
theorem vn_of (rr pa pb i1 i2 ia ib ic r0 r1 r2 : Int32) {w1 w2 u0 u1 u2 fa : UInt64} {x1 x2 a0 a1 a2 b : Int} (hw1 : Ra x1 1 w1) (hw2 : Ra x2 1 w2) (bx1 : x1.natAbs ≤ 128) (bx2 : x2.natAbs ≤ 128) (hu0 : Ra a0 1 u0) (hu1 : Ra a1 1 u1) (hu2 : Ra a2 1 u2) (hf : Ra b 1 fa) (ba0 : a0.natAbs ≤ 128) (ba1 : a1.natAbs ≤ 128) (ba2 : a2.natAbs ≤ 128) (bb : b.natAbs ≤ 32768) :
    VN rr pa pb i1 i2 ia ib ic r0 r1 r2 w1 w2 u0 u1 u2 fa ∧ NoNaN64 (ve rr pa pb i1 i2 ia ib ic r0 r1 r2 w1 w2 u0 u1 u2 fa) := by
  have upR : ∀ (fl row : Int32) (e n : UInt64) (M : Nat), (∃ i : Int, Ra i 1 e ∧ i.natAbs ≤ M) → (∃ i : Int, Ra i 1 n ∧ i.natAbs ≤ M) → ∃ i : Int, Ra i 1 (up fl row rr e n) ∧ i.natAbs ≤ M := fun fl row e n M he hn => by
    unfold up
    by_cases q : fl = (0 : Int32)
    · rw [if_pos q]; exact he
    · rw [if_neg q]
      by_cases q2 : row = rr
      · rw [if_pos q2]; exact hn
      · rw [if_neg q2]; exact he
  obtain ⟨p0, bp0⟩ := prodR hu0 hf ba0 bb
  obtain ⟨p1, bp1⟩ := prodR hu1 hf ba1 bb
  obtain ⟨p2, bp2⟩ := prodR hu2 hf ba2 bb
  have add' : ∀ {e d : UInt64} {w : Int} {M N : Nat}, (∃ i : Int, Ra i 1 e ∧ i.natAbs ≤ M) → Ra w 1 d → w.natAbs ≤ N → M + N ≤ 1000000000 → ∃ i : Int, Ra i 1 (FP.dadd e d) ∧ i.natAbs ≤ M + N := fun ⟨i, hi, bi'⟩ hd hw hm => ⟨_, Ra.add (k := 0) hi hd (by omega) rfl (by decide), by omega⟩
  have sub' : ∀ {e d : UInt64} {w : Int} {M N : Nat}, (∃ i : Int, Ra i 1 e ∧ i.natAbs ≤ M) → Ra w 1 d → w.natAbs ≤ N → M + N ≤ 1000000000 → ∃ i : Int, Ra i 1 (FP.dsub e d) ∧ i.natAbs ≤ M + N := fun ⟨i, hi, bi'⟩ hd hw hm => ⟨_, Ra.sub (k := 0) hi hd (by omega) rfl (by decide), by omega⟩
  have wk : ∀ {e : UInt64} {M N : Nat}, M ≤ N → (∃ i : Int, Ra i 1 e ∧ i.natAbs ≤ M) → ∃ i : Int, Ra i 1 e ∧ i.natAbs ≤ N := fun hm ⟨i, hi, bi'⟩ => ⟨i, hi, by omega⟩
  have nn : ∀ {e : UInt64} {M : Nat}, (∃ i : Int, Ra i 1 e ∧ i.natAbs ≤ M) → NoNaN64 e := fun ⟨i, hi, _⟩ => hi.nn
  have z0 : ∃ i : Int, Ra i 1 (0 : UInt64) ∧ i.natAbs ≤ 0 := ⟨0, ra_zero, by decide⟩
  have s1 := add' z0 hw1 bx1 (by decide)
  have e0 := upR pa i1 (0 : UInt64) _ _ (wk (by decide) z0) s1
  have s2 := add' e0 hw2 bx2 (by decide)
  have e1 := upR pb i2 _ _ _ (wk (by decide) e0) s2
  have s3 := sub' e1 p0 bp0 (by decide)
  have e2 := upR ia r0 _ _ _ (wk (by decide) e1) s3
  have s4 := sub' e2 p1 bp1 (by decide)
  have e3 := upR ib r1 _ _ _ (wk (by decide) e2) s4
  have s5 := sub' e3 p2 bp2 (by decide)
  have e4 := upR ic r2 _ _ _ (wk (by decide) e3) s5
  exact ⟨⟨nn s1, nn s2, p0.nn, nn s3, p1.nn, nn s4, p2.nn, nn s5⟩, nn e4⟩
theorem bi01 (b : Bool) : bi b = (0 : Int32) ∨ bi b = (1 : Int32) := by cases b <;> decide
theorem inn01 (fr tt j : Int32) : inn fr tt j = (0 : Int32) ∨ inn fr tt j = (1 : Int32) := by
  unfold inn
  by_cases a : j < fr
  · rw [if_pos a]; exact Or.inl rfl
  · rw [if_neg a]
    by_cases b : j < tt
    · rw [if_pos b]; exact Or.inr rfl
    · rw [if_neg b]; exact Or.inl rfl
end Jvm.OwnSC
namespace Jvm.Pilot.@@N@@
open Jvm Jvm.ClassFile Sem Op Lib Jvm.Free Jvm.Stand Jvm.LawKit Jvm.RoadKit Bundle Jvm.Pilot.@@N@@.Jvm.D
theorem d10_0 : decode prog_87_method_6_code 0 = .ok (.aload_n 0, 1) := by decide +kernel
theorem d10_1 : decode prog_87_method_6_code 1 = .ok (.getfield 13, 3) := by decide +kernel
theorem d10_4 : decode prog_87_method_6_code 4 = .ok (.iload_n 1, 1) := by decide +kernel
theorem d10_5 : decode prog_87_method_6_code 5 = .ok (.baload, 1) := by decide +kernel
theorem d10_6 : decode prog_87_method_6_code 6 = .ok (.ifCond .ne 27, 3) := by decide +kernel
theorem d10_33 : decode prog_87_method_6_code 33 = .ok (.aload_n 0, 1) := by decide +kernel
theorem d10_34 : decode prog_87_method_6_code 34 = .ok (.getfield 7, 3) := by decide +kernel
theorem d10_37 : decode prog_87_method_6_code 37 = .ok (.iload_n 1, 1) := by decide +kernel
theorem d10_38 : decode prog_87_method_6_code 38 = .ok (.dup2, 1) := by decide +kernel
theorem d10_39 : decode prog_87_method_6_code 39 = .ok (.daload, 1) := by decide +kernel
theorem d10_40 : decode prog_87_method_6_code 40 = .ok (.dload_n 2, 1) := by decide +kernel
theorem d10_41 : decode prog_87_method_6_code 41 = .ok (.dadd, 1) := by decide +kernel
theorem d10_42 : decode prog_87_method_6_code 42 = .ok (.dastore, 1) := by decide +kernel
theorem d10_43 : decode prog_87_method_6_code 43 = .ok (.return_, 1) := by decide +kernel
theorem pn_com_example_leeway_leeway_lp_SparseColumn : plainName "com/example/leeway/leeway/lp/SparseColumn" = true := by first | (simp [plainName, overriddenIn]; done) | decide +kernel
theorem ef_10_RID (m : MethodId) (x0 : Addr) (x1 : Int32) (x2 : UInt64) : entryFrame m #[(.ref x0), (.int x1), (.double x2)] 4 = mkF m 0 #[.val (.ref x0), .val (.int x1), .val (.double x2), .second] [] := by first | (simp [entryFrame, mkF, argsToLocals, Value.category]; done) | rfl
def Q_addL (Z : State) (o0 : Addr) (v0 : Addr) (l0 : Addr) (w0 : Addr) (kv : ClassId) (kl : ClassId) (kw : ClassId) (A : Jvm.OwnSC.OwnSt) (B : Jvm.OwnSC.OwnSt) (i : Int32) (d0 : UInt64) (dx : UInt64) (dy : UInt64) (h0 : Heap) (n0 : Nat) (v : Option Value) (h : Heap) (L : List Loc) : Prop := v = none ∧ Fr n0 L ∧ Keep h0 h [o0, v0, l0, w0] ∧ Exa Z h o0 "com/example/leeway/leeway/lp/SparseColumn" ∧ Fld Z h o0 "com/example/leeway/leeway/lp/SparseColumn" "values" "[D" (.ref v0) ∧ Fld Z h o0 "com/example/leeway/leeway/lp/SparseColumn" "listed" "[Z" (.ref l0) ∧ Fld Z h o0 "com/example/leeway/leeway/lp/SparseColumn" "rows" "[I" (.ref w0) ∧ Fld Z h o0 "com/example/leeway/leeway/lp/SparseColumn" "count" "I" (.int B.1) ∧ Arv Z h v0 kv .double (4 : Int32) B.2.2.2 (.double (0 : UInt64)) ∧ Arv Z h l0 kl .boolean (4 : Int32) B.2.2.1 (.int (0 : Int32)) ∧ Arv Z h w0 kw .int (4 : Int32) B.2.1 (.int (0 : Int32))
set_option maxRecDepth 65536 in
set_option maxHeartbeats 40000000 in
theorem addL (l : Launch) (Z : State) (a0 : Array Value) (hw : ∀ d ∈ tables_1, d.before a0 Z = true) (ws : List Jvm.Cond) (o0 : Addr) (v0 : Addr) (l0 : Addr) (w0 : Addr) (kv : ClassId) (kl : ClassId) (kw : ClassId) (A : Jvm.OwnSC.OwnSt) (B : Jvm.OwnSC.OwnSt) (i : Int32) (d0 : UInt64) (dx : UInt64) (dy : UInt64) (h0 : Heap) (n0 : Nat) (Z0 : n0 ≤ h0.size) (F_values_o0 : Fld Z h0 o0 "com/example/leeway/leeway/lp/SparseColumn" "values" "[D" (.ref v0)) (F_listed_o0 : Fld Z h0 o0 "com/example/leeway/leeway/lp/SparseColumn" "listed" "[Z" (.ref l0)) (F_rows_o0 : Fld Z h0 o0 "com/example/leeway/leeway/lp/SparseColumn" "rows" "[I" (.ref w0)) (F_count_o0 : Fld Z h0 o0 "com/example/leeway/leeway/lp/SparseColumn" "count" "I" (.int A.1)) (E_o0 : Exa Z h0 o0 "com/example/leeway/leeway/lp/SparseColumn") (V_v0 : Arv Z h0 v0 kv .double (4 : Int32) A.2.2.2 (.double (0 : UInt64))) (V_l0 : Arv Z h0 l0 kl .boolean (4 : Int32) A.2.2.1 (.int (0 : Int32))) (V_w0 : Arv Z h0 w0 kw .int (4 : Int32) A.2.1 (.int (0 : Int32))) (g_o0 : n0 ≤ o0) (g_v0 : n0 ≤ v0) (g_l0 : n0 ≤ l0) (g_w0 : n0 ≤ w0) (ne_o0_v0 : o0 ≠ v0) (ne_o0_l0 : o0 ≠ l0) (ne_o0_w0 : o0 ≠ w0) (ne_v0_l0 : v0 ≠ l0) (ne_v0_w0 : v0 ≠ w0) (ne_l0_w0 : l0 ≠ w0) (hix : ¬ i < 0 ∧ i < (4 : Int32)) (hrl : A.2.2.1.getD i.toNatClampNeg (.int (0 : Int32)) = .int (1 : Int32)) (hrv : A.2.2.2.getD i.toNatClampNeg (.double (0 : UInt64)) = .double dx) (hvl : i.toNatClampNeg < A.2.2.2.length) (hvs : (A.2.2.2.set i.toNatClampNeg (.double dy)) = B.2.2.2) (hcn : A.1 = B.1) (hrs : A.2.1 = B.2.1) (hls : A.2.2.1 = B.2.2.1) (nn41 : Jvm.Free.Fl.NoNaN64 (FP.dadd dx d0)) (hq41 : (FP.dadd dx d0) = dy) :
    MetFree l (⟨"com/example/leeway/leeway/lp/SparseColumn", "add", "(ID)V"⟩ : MethodName) (head1 (Jvm.Cond.code (⟨"com/example/leeway/leeway/lp/SparseColumn", "add", "(ID)V"⟩ : MethodName) prog_87_method_6_code 4 none :: ws) ({ frames := 0, cells := 0, slots := 0, locals := 0 } : Room)) (fun a U => a = #[(.ref o0), (.int i), (.double d0)] ∧ Z.Warmed39 U.vm ∧ U.heap = h0) (fun _ _ _ _ _ => True) (fun _ U o U' => ∃ v L, o = .returned v ∧ Q_addL Z o0 v0 l0 w0 kv kl kw A B i d0 dx dy h0 n0 v U'.heap L ∧ FrameEnd U o U' L ({ frames := 0, cells := 0, slots := 0, locals := 0 } : Room).cells ({ frames := 0, cells := 0, slots := 0, locals := 0 } : Room).slots) := by
  refine MetFree.of_bodySF (plainFor_of_name pn_com_example_leeway_leeway_lp_SparseColumn) hisR ?_
  intro p e s m args below meth c s₁ Bd hml0 hP hK
  obtain ⟨rfl, hZ, hh⟩ := hP
  have hx := Bd.exec
  have hby := Bd.bytes
  have hml : c.maxLocals = 4 := hml0
  have hown : s.vm.findClass "com/example/leeway/leeway/lp/SparseColumn" = some m.cls := findClass_of_methodNamed Bd.named
  have hnm := (name_of_methodNamed Bd.named Bd.method).1
  have X0 : Stand p l e ({ frames := 0, cells := 0, slots := 0, locals := 0 } : Room) s m #[(.ref o0), (.int i), (.double d0)] below meth c s₁ [] 0 0 := Stand.of_body Bd
  have e0 : s₁.heap = h0 := by rw [← hh, Bd.state]; rfl
  have N0 := Fr.nil n0
  have pre0 : ∀ t, Steps p.tables e below (s₁.setTop (mkF m 0 #[.val (.ref o0), .val (.int i), .val (.double d0), .second] [])) t → Steps p.tables e below (s₁.setTop (entryFrame m #[(.ref o0), (.int i), (.double d0)] 4)) t := fun t k => castTop (ef_10_RID m o0 i d0) k
  obtain ⟨T1, X1, e1, st1⟩ := getF X0 hx hZ hown (host := "") (Or.inl (hw _ (List.mem_of_getElem? (i := 14) rfl))) Via.refl e0 F_listed_o0 (g := (mkF m 1 #[.val (.ref o0), .val (.int i), .val (.double d0), .second] [(.ref o0)])) rfl rfl (hb hby d10_1)
  obtain ⟨cq2, Arq2, -, Sq2, -, Hq2, -⟩ := id V_l0
  obtain ⟨T3, X3, e3, st3⟩ := getF X1 hx hZ hown (host := "") (Or.inl (hw _ (List.mem_of_getElem? (i := 12) rfl))) Via.refl e1 F_values_o0 (g := (mkF m 34 #[.val (.ref o0), .val (.int i), .val (.double d0), .second] [(.ref o0)])) rfl rfl (hb hby d10_34)
  obtain ⟨cq4, Arq4, -, Sq4, -, Hq4, -⟩ := id V_v0
  obtain ⟨cq5, Arq5, qq5, Sq5, Nq5, Hq5, Gq5⟩ := id V_v0
  obtain ⟨T6, h6, X6, e6, W6, st6⟩ := stD X3 hx hZ e3 Arq5 (j := i) (inb_of Sq5 hix) (g := (mkF m 42 #[.val (.ref o0), .val (.int i), .val (.double d0), .second] [(.double dy), (.int i), (.ref v0)])) rfl rfl (hb hby d10_42)
  have f7 := F_values_o0.other W6 (Or.inl ne_o0_v0)
  have f8 := F_listed_o0.other W6 (Or.inl ne_o0_v0)
  have f9 := F_rows_o0.other W6 (Or.inl ne_o0_v0)
  have f10 := F_count_o0.other W6 (Or.inl ne_o0_v0)
  have f11 := E_o0.wr W6
  have f12 := V_l0.other W6 (Ne.symm ne_v0_l0)
  have f13 := V_w0.other W6 (Ne.symm ne_v0_w0)
  have K6 : Keep h0 h6 [o0, v0, l0, w0] := (Keep.refl h0 [o0, v0, l0, w0]).wr W6 (Or.inl (List.mem_of_getElem? (i := 1) rfl))
  have Zs6 := Nat.le_trans Z0 (Keep.of_wr W6).1
  have N6 := Fr.snoc X6 N0 g_v0
  have f14 : Arv Z h6 v0 kv .double (4 : Int32) (A.2.2.2.set i.toNatClampNeg (.double dy)) (.double (0 : UInt64)) := Arv.set Arq5 qq5 Sq5 Nq5 Hq5 Gq5 rfl W6 i.toNatClampNeg rfl hvl
  have f15 := own_arvL (vs1 := B.2.2.2) (hvs : ((A.2.2.2.set i.toNatClampNeg (.double dy)) : List Value) = B.2.2.2) f14
  have f16 := own_arvL (vs1 := B.2.2.1) (hls : (A.2.2.1 : List Value) = B.2.2.1) f12
  have f17 := own_arvL (vs1 := B.2.1) (hrs : (A.2.1 : List Value) = B.2.1) f13
  have f18 := own_fldV (v1 := (.int B.1)) (congrArg Value.int hcn) f10
  obtain ⟨fs, hr, hrun, hended, hW, hsame⟩ := X6.leave (v := none) (fun _ => rfl)
  refine ⟨_, _, pre0 _ ?_, hrun, hended, _, _, rfl, ?_, ⟨_, rfl⟩, hW, hsame.mono (by decide) (by decide)⟩
  · show Steps p.tables e below (s₁.setTop (mkF m 0 #[.val (.ref o0), .val (.int i), .val (.double d0), .second] [])) _
    refine XS.aloadN X0.here hx rfl (hb hby d10_0) rfl rfl ?_
    refine st1 _ ?_
    show Steps p.tables e below (T1.setTop (mkF m 4 #[.val (.ref o0), .val (.int i), .val (.double d0), .second] [(.ref l0)])) _
    refine XS.iloadN X1.here hx rfl (hb hby d10_4) rfl ?_
    refine X1.baloadBooleans hx (j := i) (v := (.int (1 : Int32))) (by rw [e1]; exact Arq2.1) (State.isArrayOf_alike hZ.alike Arq2.2.1) Arq2.2.2 (inb_of Sq2 hix) (Has.at Hq2 (inb_of Sq2 hix) hrl) (g := (mkF m 5 #[.val (.ref o0), .val (.int i), .val (.double d0), .second] [(.int i), (.ref l0)])) rfl rfl (hb hby d10_5) _ ?_
    show Steps p.tables e below (T1.setTop (mkF m 6 #[.val (.ref o0), .val (.int i), .val (.double d0), .second] [(.int (1 : Int32))])) _
    refine XS.ifYes X1.here hx rfl (pc0 := 6) (pc' := 33) rfl (hb hby d10_6) rfl ((if0 _ _).trans (feq (by decide : ¬ ((1 : Int32) = (0 : Int32)))).2) (by decide) (by decide) ?_
    show Steps p.tables e below (T1.setTop (mkF m 33 #[.val (.ref o0), .val (.int i), .val (.double d0), .second] [])) _
    refine XS.aloadN X1.here hx rfl (hb hby d10_33) rfl rfl ?_
    refine st3 _ ?_
    show Steps p.tables e below (T3.setTop (mkF m 37 #[.val (.ref o0), .val (.int i), .val (.double d0), .second] [(.ref v0)])) _
    refine XS.iloadN X3.here hx rfl (hb hby d10_37) rfl ?_
    jvm_step X3.here [X3.here.top, hx, (hb hby d10_38), Value.category]
    show Steps p.tables e below (T3.setTop (mkF m 39 #[.val (.ref o0), .val (.int i), .val (.double d0), .second] [(.int i), (.ref v0), (.int i), (.ref v0)])) _
    refine X3.daload hx (j := i) (v := (.double dx)) (by rw [e3]; exact Arq4.1) (State.isArrayOf_alike hZ.alike Arq4.2.1) Arq4.2.2 (inb_of Sq4 hix) (Has.at Hq4 (inb_of Sq4 hix) hrv) (g := (mkF m 39 #[.val (.ref o0), .val (.int i), .val (.double d0), .second] [(.int i), (.ref v0), (.int i), (.ref v0)])) rfl rfl (hb hby d10_39) _ ?_
    show Steps p.tables e below (T3.setTop (mkF m 40 #[.val (.ref o0), .val (.int i), .val (.double d0), .second] [(.double dx), (.int i), (.ref v0)])) _
    refine XS.dloadN X3.here hx rfl (hb hby d10_40) rfl ?_
    show Steps p.tables e below (T3.setTop (mkF m 41 #[.val (.ref o0), .val (.int i), .val (.double d0), .second] [(.double d0), (.double dx), (.int i), (.ref v0)])) _
    refine XS.daddS X3.here hx rfl (hb hby d10_41) rfl nn41 (v := dy) hq41 ?_
    refine st6 _ ?_
    show Steps p.tables e below (T6.setTop (mkF m 43 #[.val (.ref o0), .val (.int i), .val (.double d0), .second] [])) _
    exact X6.returnOut hx Bd.returns (hb hby d10_43) hr
  · show Q_addL Z o0 v0 l0 w0 kv kl kw A B i d0 dx dy h0 n0 _ T6.heap _
    rw [e6]
    exact ⟨rfl, N6, K6, f11, f7, f8, f9, f18, f15, f16, f17⟩
theorem d10_9 : decode prog_87_method_6_code 9 = .ok (.aload_n 0, 1) := by decide +kernel
theorem d10_10 : decode prog_87_method_6_code 10 = .ok (.getfield 13, 3) := by decide +kernel
theorem d10_13 : decode prog_87_method_6_code 13 = .ok (.iload_n 1, 1) := by decide +kernel
theorem d10_14 : decode prog_87_method_6_code 14 = .ok (.iconst 1, 1) := by decide +kernel
theorem d10_15 : decode prog_87_method_6_code 15 = .ok (.bastore, 1) := by decide +kernel
theorem d10_16 : decode prog_87_method_6_code 16 = .ok (.aload_n 0, 1) := by decide +kernel
theorem d10_17 : decode prog_87_method_6_code 17 = .ok (.getfield 17, 3) := by decide +kernel
theorem d10_20 : decode prog_87_method_6_code 20 = .ok (.aload_n 0, 1) := by decide +kernel
theorem d10_21 : decode prog_87_method_6_code 21 = .ok (.dup, 1) := by decide +kernel
theorem d10_22 : decode prog_87_method_6_code 22 = .ok (.getfield 21, 3) := by decide +kernel
theorem d10_25 : decode prog_87_method_6_code 25 = .ok (.dup_x1, 1) := by decide +kernel
theorem d10_26 : decode prog_87_method_6_code 26 = .ok (.iconst 1, 1) := by decide +kernel
theorem d10_27 : decode prog_87_method_6_code 27 = .ok (.iadd, 1) := by decide +kernel
theorem d10_28 : decode prog_87_method_6_code 28 = .ok (.putfield 21, 3) := by decide +kernel
theorem so_SparseColumn_values_count {Z : State} {a0 : Array Value} (hw : ∀ d ∈ tables_1, d.before a0 Z = true) : Jvm.RoadKit.slotOf Z "com/example/leeway/leeway/lp/SparseColumn" "values" "[D" ≠ Jvm.RoadKit.slotOf Z "com/example/leeway/leeway/lp/SparseColumn" "count" "I" := slot_ne (Or.inr (hw _ (List.mem_of_getElem? (i := 13) rfl))) (Or.inl (hw _ (List.mem_of_getElem? (i := 39) rfl))) (by decide) (t := (.array .double)) (t' := .int) (by decide) (by decide)
theorem so_SparseColumn_listed_count {Z : State} {a0 : Array Value} (hw : ∀ d ∈ tables_1, d.before a0 Z = true) : Jvm.RoadKit.slotOf Z "com/example/leeway/leeway/lp/SparseColumn" "listed" "[Z" ≠ Jvm.RoadKit.slotOf Z "com/example/leeway/leeway/lp/SparseColumn" "count" "I" := slot_ne (Or.inr (hw _ (List.mem_of_getElem? (i := 15) rfl))) (Or.inl (hw _ (List.mem_of_getElem? (i := 39) rfl))) (by decide) (t := (.array .boolean)) (t' := .int) (by decide) (by decide)
theorem so_SparseColumn_rows_count {Z : State} {a0 : Array Value} (hw : ∀ d ∈ tables_1, d.before a0 Z = true) : Jvm.RoadKit.slotOf Z "com/example/leeway/leeway/lp/SparseColumn" "rows" "[I" ≠ Jvm.RoadKit.slotOf Z "com/example/leeway/leeway/lp/SparseColumn" "count" "I" := slot_ne (Or.inr (hw _ (List.mem_of_getElem? (i := 17) rfl))) (Or.inl (hw _ (List.mem_of_getElem? (i := 39) rfl))) (by decide) (t := (.array .int)) (t' := .int) (by decide) (by decide)
theorem d10_31 : decode prog_87_method_6_code 31 = .ok (.iload_n 1, 1) := by decide +kernel
theorem d10_32 : decode prog_87_method_6_code 32 = .ok (.iastore, 1) := by decide +kernel
def Q_addN (Z : State) (o0 : Addr) (v0 : Addr) (l0 : Addr) (w0 : Addr) (kv : ClassId) (kl : ClassId) (kw : ClassId) (A : Jvm.OwnSC.OwnSt) (B : Jvm.OwnSC.OwnSt) (i : Int32) (d0 : UInt64) (dx : UInt64) (dy : UInt64) (h0 : Heap) (n0 : Nat) (v : Option Value) (h : Heap) (L : List Loc) : Prop := v = none ∧ Fr n0 L ∧ Keep h0 h [o0, v0, l0, w0] ∧ Exa Z h o0 "com/example/leeway/leeway/lp/SparseColumn" ∧ Fld Z h o0 "com/example/leeway/leeway/lp/SparseColumn" "values" "[D" (.ref v0) ∧ Fld Z h o0 "com/example/leeway/leeway/lp/SparseColumn" "listed" "[Z" (.ref l0) ∧ Fld Z h o0 "com/example/leeway/leeway/lp/SparseColumn" "rows" "[I" (.ref w0) ∧ Fld Z h o0 "com/example/leeway/leeway/lp/SparseColumn" "count" "I" (.int B.1) ∧ Arv Z h v0 kv .double (4 : Int32) B.2.2.2 (.double (0 : UInt64)) ∧ Arv Z h l0 kl .boolean (4 : Int32) B.2.2.1 (.int (0 : Int32)) ∧ Arv Z h w0 kw .int (4 : Int32) B.2.1 (.int (0 : Int32))
set_option maxRecDepth 65536 in
set_option maxHeartbeats 40000000 in
theorem addN (l : Launch) (Z : State) (a0 : Array Value) (hw : ∀ d ∈ tables_1, d.before a0 Z = true) (ws : List Jvm.Cond) (o0 : Addr) (v0 : Addr) (l0 : Addr) (w0 : Addr) (kv : ClassId) (kl : ClassId) (kw : ClassId) (A : Jvm.OwnSC.OwnSt) (B : Jvm.OwnSC.OwnSt) (i : Int32) (d0 : UInt64) (dx : UInt64) (dy : UInt64) (h0 : Heap) (n0 : Nat) (Z0 : n0 ≤ h0.size) (F_values_o0 : Fld Z h0 o0 "com/example/leeway/leeway/lp/SparseColumn" "values" "[D" (.ref v0)) (F_listed_o0 : Fld Z h0 o0 "com/example/leeway/leeway/lp/SparseColumn" "listed" "[Z" (.ref l0)) (F_rows_o0 : Fld Z h0 o0 "com/example/leeway/leeway/lp/SparseColumn" "rows" "[I" (.ref w0)) (F_count_o0 : Fld Z h0 o0 "com/example/leeway/leeway/lp/SparseColumn" "count" "I" (.int A.1)) (E_o0 : Exa Z h0 o0 "com/example/leeway/leeway/lp/SparseColumn") (V_v0 : Arv Z h0 v0 kv .double (4 : Int32) A.2.2.2 (.double (0 : UInt64))) (V_l0 : Arv Z h0 l0 kl .boolean (4 : Int32) A.2.2.1 (.int (0 : Int32))) (V_w0 : Arv Z h0 w0 kw .int (4 : Int32) A.2.1 (.int (0 : Int32))) (g_o0 : n0 ≤ o0) (g_v0 : n0 ≤ v0) (g_l0 : n0 ≤ l0) (g_w0 : n0 ≤ w0) (ne_o0_v0 : o0 ≠ v0) (ne_o0_l0 : o0 ≠ l0) (ne_o0_w0 : o0 ≠ w0) (ne_v0_l0 : v0 ≠ l0) (ne_v0_w0 : v0 ≠ w0) (ne_l0_w0 : l0 ≠ w0) (hix : ¬ i < 0 ∧ i < (4 : Int32)) (hrl : A.2.2.1.getD i.toNatClampNeg (.int (0 : Int32)) = .int (0 : Int32)) (hrv : A.2.2.2.getD i.toNatClampNeg (.double (0 : UInt64)) = .double dx) (hvl : i.toNatClampNeg < A.2.2.2.length) (hvs : (A.2.2.2.set i.toNatClampNeg (.double dy)) = B.2.2.2) (hll : i.toNatClampNeg < A.2.2.1.length) (hls : (A.2.2.1.set i.toNatClampNeg (.int (1 : Int32))) = B.2.2.1) (hcx : ¬ A.1 < 0 ∧ A.1 < (4 : Int32)) (hrn : A.1.toNatClampNeg < A.2.1.length) (hrs : (A.2.1.set A.1.toNatClampNeg (.int i)) = B.2.1) (hcn : (A.1 + (1 : Int32)) = B.1) (nn41 : Jvm.Free.Fl.NoNaN64 (FP.dadd dx d0)) (hq41 : (FP.dadd dx d0) = dy) :
    MetFree l (⟨"com/example/leeway/leeway/lp/SparseColumn", "add", "(ID)V"⟩ : MethodName) (head1 (Jvm.Cond.code (⟨"com/example/leeway/leeway/lp/SparseColumn", "add", "(ID)V"⟩ : MethodName) prog_87_method_6_code 4 none :: ws) ({ frames := 0, cells := 0, slots := 0, locals := 0 } : Room)) (fun a U => a = #[(.ref o0), (.int i), (.double d0)] ∧ Z.Warmed39 U.vm ∧ U.heap = h0) (fun _ _ _ _ _ => True) (fun _ U o U' => ∃ v L, o = .returned v ∧ Q_addN Z o0 v0 l0 w0 kv kl kw A B i d0 dx dy h0 n0 v U'.heap L ∧ FrameEnd U o U' L ({ frames := 0, cells := 0, slots := 0, locals := 0 } : Room).cells ({ frames := 0, cells := 0, slots := 0, locals := 0 } : Room).slots) := by
  refine MetFree.of_bodySF (plainFor_of_name pn_com_example_leeway_leeway_lp_SparseColumn) hisR ?_
  intro p e s m args below meth c s₁ Bd hml0 hP hK
  obtain ⟨rfl, hZ, hh⟩ := hP
  have hx := Bd.exec
  have hby := Bd.bytes
  have hml : c.maxLocals = 4 := hml0
  have hown : s.vm.findClass "com/example/leeway/leeway/lp/SparseColumn" = some m.cls := findClass_of_methodNamed Bd.named
  have hnm := (name_of_methodNamed Bd.named Bd.method).1
  have X0 : Stand p l e ({ frames := 0, cells := 0, slots := 0, locals := 0 } : Room) s m #[(.ref o0), (.int i), (.double d0)] below meth c s₁ [] 0 0 := Stand.of_body Bd
  have e0 : s₁.heap = h0 := by rw [← hh, Bd.state]; rfl
  have N0 := Fr.nil n0
  have pre0 : ∀ t, Steps p.tables e below (s₁.setTop (mkF m 0 #[.val (.ref o0), .val (.int i), .val (.double d0), .second] [])) t → Steps p.tables e below (s₁.setTop (entryFrame m #[(.ref o0), (.int i), (.double d0)] 4)) t := fun t k => castTop (ef_10_RID m o0 i d0) k
  obtain ⟨T1, X1, e1, st1⟩ := getF X0 hx hZ hown (host := "") (Or.inl (hw _ (List.mem_of_getElem? (i := 14) rfl))) Via.refl e0 F_listed_o0 (g := (mkF m 1 #[.val (.ref o0), .val (.int i), .val (.double d0), .second] [(.ref o0)])) rfl rfl (hb hby d10_1)
  obtain ⟨cq2, Arq2, -, Sq2, -, Hq2, -⟩ := id V_l0
  obtain ⟨T3, X3, e3, st3⟩ := getF X1 hx hZ hown (host := "") (Or.inl (hw _ (List.mem_of_getElem? (i := 14) rfl))) Via.refl e1 F_listed_o0 (g := (mkF m 10 #[.val (.ref o0), .val (.int i), .val (.double d0), .second] [(.ref o0)])) rfl rfl (hb hby d10_10)
  obtain ⟨cq4, Arq4, qq4, Sq4, Nq4, Hq4, Gq4⟩ := id V_l0
  obtain ⟨T5, h5, X5, e5, W5, st5⟩ := stZ X3 hx hZ e3 Arq4 (j := i) (inb_of Sq4 hix) (g := (mkF m 15 #[.val (.ref o0), .val (.int i), .val (.double d0), .second] [(.int (1 : Int32)), (.int i), (.ref l0)])) rfl rfl (hb hby d10_15)
  have f6 := F_values_o0.other W5 (Or.inl ne_o0_l0)
  have f7 := F_listed_o0.other W5 (Or.inl ne_o0_l0)
  have f8 := F_rows_o0.other W5 (Or.inl ne_o0_l0)
  have f9 := F_count_o0.other W5 (Or.inl ne_o0_l0)
  have f10 := E_o0.wr W5
  have f11 := V_v0.other W5 ne_v0_l0
  have f12 := V_w0.other W5 (Ne.symm ne_l0_w0)
  have K5 : Keep h0 h5 [o0, v0, l0, w0] := (Keep.refl h0 [o0, v0, l0, w0]).wr W5 (Or.inl (List.mem_of_getElem? (i := 2) rfl))
  have Zs5 := Nat.le_trans Z0 (Keep.of_wr W5).1
  have N5 := Fr.snoc X5 N0 g_l0
  have f13 : Arv Z h5 l0 kl .boolean (4 : Int32) (A.2.2.1.set i.toNatClampNeg (.int (1 : Int32))) (.int (0 : Int32)) := Arv.set Arq4 qq4 Sq4 Nq4 Hq4 Gq4 (by decide) W5 i.toNatClampNeg rfl hll
  obtain ⟨T14, X14, e14, st14⟩ := getF X5 hx hZ hown (host := "") (Or.inl (hw _ (List.mem_of_getElem? (i := 16) rfl))) Via.refl e5 f8 (g := (mkF m 17 #[.val (.ref o0), .val (.int i), .val (.double d0), .second] [(.ref o0)])) rfl rfl (hb hby d10_17)
  obtain ⟨T15, X15, e15, st15⟩ := getF X14 hx hZ hown (host := "") (Or.inl (hw _ (List.mem_of_getElem? (i := 38) rfl))) Via.refl e14 f9 (g := (mkF m 22 #[.val (.ref o0), .val (.int i), .val (.double d0), .second] [(.ref o0), (.ref o0), (.ref w0)])) rfl rfl (hb hby d10_22)
  obtain ⟨T16, h16, X16, e16, W16, st16⟩ := putF X15 hx hZ hown (host := "") (Or.inl (hw _ (List.mem_of_getElem? (i := 38) rfl))) Via.refl e15 f9 f10 (Or.inl (hw _ (List.mem_of_getElem? (i := 39) rfl))) (hw _ (List.mem_of_getElem? (i := 4) rfl)) (ty := .int) (by decide) rfl rfl (g := (mkF m 28 #[.val (.ref o0), .val (.int i), .val (.double d0), .second] [(.int (A.1 + (1 : Int32))), (.ref o0), (.int A.1), (.ref w0)])) rfl rfl (hb hby d10_28)
  have f17 := f6.other W16 (Or.inr (so_SparseColumn_values_count hw))
  have f18 := f7.other W16 (Or.inr (so_SparseColumn_listed_count hw))
  have f19 := f8.other W16 (Or.inr (so_SparseColumn_rows_count hw))
  have f20 := f10.wr W16
  have f21 := f11.other W16 (Ne.symm ne_o0_v0)
  have f22 := f13.other W16 (Ne.symm ne_o0_l0)
  have f23 := f12.other W16 (Ne.symm ne_o0_w0)
  have K16 : Keep h0 h16 [o0, v0, l0, w0] := K5.wr W16 (Or.inl (List.mem_of_getElem? (i := 0) rfl))
  have Zs16 := Nat.le_trans Zs5 (Keep.of_wr W16).1
  have N16 := Fr.snoc X16 N5 g_o0
  have f24 : Fld Z h16 o0 "com/example/leeway/leeway/lp/SparseColumn" "count" "I" (.int (A.1 + (1 : Int32))) := f9.same W16
  obtain ⟨cq25, Arq25, qq25, Sq25, Nq25, Hq25, Gq25⟩ := id f23
  obtain ⟨T26, h26, X26, e26, W26, st26⟩ := stI X16 hx hZ e16 Arq25 (j := A.1) (inb_of Sq25 hcx) (g := (mkF m 32 #[.val (.ref o0), .val (.int i), .val (.double d0), .second] [(.int i), (.int A.1), (.ref w0)])) rfl rfl (hb hby d10_32)
  have f27 := f17.other W26 (Or.inl ne_o0_w0)
  have f28 := f18.other W26 (Or.inl ne_o0_w0)
  have f29 := f19.other W26 (Or.inl ne_o0_w0)
  have f30 := f24.other W26 (Or.inl ne_o0_w0)
  have f31 := f20.wr W26
  have f32 := f21.other W26 ne_v0_w0
  have f33 := f22.other W26 ne_l0_w0
  have K26 : Keep h0 h26 [o0, v0, l0, w0] := K16.wr W26 (Or.inl (List.mem_of_getElem? (i := 3) rfl))
  have Zs26 := Nat.le_trans Zs16 (Keep.of_wr W26).1
  have N26 := Fr.snoc X26 N16 g_w0
  have f34 : Arv Z h26 w0 kw .int (4 : Int32) (A.2.1.set A.1.toNatClampNeg (.int i)) (.int (0 : Int32)) := Arv.set Arq25 qq25 Sq25 Nq25 Hq25 Gq25 rfl W26 A.1.toNatClampNeg rfl hrn
  obtain ⟨T35, X35, e35, st35⟩ := getF X26 hx hZ hown (host := "") (Or.inl (hw _ (List.mem_of_getElem? (i := 12) rfl))) Via.refl e26 f27 (g := (mkF m 34 #[.val (.ref o0), .val (.int i), .val (.double d0), .second] [(.ref o0)])) rfl rfl (hb hby d10_34)
  obtain ⟨cq36, Arq36, -, Sq36, -, Hq36, -⟩ := id f32
  obtain ⟨cq37, Arq37, qq37, Sq37, Nq37, Hq37, Gq37⟩ := id f32
  obtain ⟨T38, h38, X38, e38, W38, st38⟩ := stD X35 hx hZ e35 Arq37 (j := i) (inb_of Sq37 hix) (g := (mkF m 42 #[.val (.ref o0), .val (.int i), .val (.double d0), .second] [(.double dy), (.int i), (.ref v0)])) rfl rfl (hb hby d10_42)
  have f39 := f27.other W38 (Or.inl ne_o0_v0)
  have f40 := f28.other W38 (Or.inl ne_o0_v0)
  have f41 := f29.other W38 (Or.inl ne_o0_v0)
  have f42 := f30.other W38 (Or.inl ne_o0_v0)
  have f43 := f31.wr W38
  have f44 := f33.other W38 (Ne.symm ne_v0_l0)
  have f45 := f34.other W38 (Ne.symm ne_v0_w0)
  have K38 : Keep h0 h38 [o0, v0, l0, w0] := K26.wr W38 (Or.inl (List.mem_of_getElem? (i := 1) rfl))
  have Zs38 := Nat.le_trans Zs26 (Keep.of_wr W38).1
  have N38 := Fr.snoc X38 N26 g_v0
  have f46 : Arv Z h38 v0 kv .double (4 : Int32) (A.2.2.2.set i.toNatClampNeg (.double dy)) (.double (0 : UInt64)) := Arv.set Arq37 qq37 Sq37 Nq37 Hq37 Gq37 rfl W38 i.toNatClampNeg rfl hvl
  have f47 := own_arvL (vs1 := B.2.2.2) (hvs : ((A.2.2.2.set i.toNatClampNeg (.double dy)) : List Value) = B.2.2.2) f46
  have f48 := own_arvL (vs1 := B.2.2.1) (hls : ((A.2.2.1.set i.toNatClampNeg (.int (1 : Int32))) : List Value) = B.2.2.1) f44
  have f49 := own_arvL (vs1 := B.2.1) (hrs : ((A.2.1.set A.1.toNatClampNeg (.int i)) : List Value) = B.2.1) f45
  have f50 := own_fldV (v1 := (.int B.1)) (congrArg Value.int hcn) f42
  obtain ⟨fs, hr, hrun, hended, hW, hsame⟩ := X38.leave (v := none) (fun _ => rfl)
  refine ⟨_, _, pre0 _ ?_, hrun, hended, _, _, rfl, ?_, ⟨_, rfl⟩, hW, hsame.mono (by decide) (by decide)⟩
  · show Steps p.tables e below (s₁.setTop (mkF m 0 #[.val (.ref o0), .val (.int i), .val (.double d0), .second] [])) _
    refine XS.aloadN X0.here hx rfl (hb hby d10_0) rfl rfl ?_
    refine st1 _ ?_
    show Steps p.tables e below (T1.setTop (mkF m 4 #[.val (.ref o0), .val (.int i), .val (.double d0), .second] [(.ref l0)])) _
    refine XS.iloadN X1.here hx rfl (hb hby d10_4) rfl ?_
    refine X1.baloadBooleans hx (j := i) (v := (.int (0 : Int32))) (by rw [e1]; exact Arq2.1) (State.isArrayOf_alike hZ.alike Arq2.2.1) Arq2.2.2 (inb_of Sq2 hix) (Has.at Hq2 (inb_of Sq2 hix) hrl) (g := (mkF m 5 #[.val (.ref o0), .val (.int i), .val (.double d0), .second] [(.int i), (.ref l0)])) rfl rfl (hb hby d10_5) _ ?_
    show Steps p.tables e below (T1.setTop (mkF m 6 #[.val (.ref o0), .val (.int i), .val (.double d0), .second] [(.int (0 : Int32))])) _
    refine XS.ifNo X1.here hx rfl (hb hby d10_6) rfl ((if0 _ _).trans (teq (by decide : (0 : Int32) = (0 : Int32))).2) ?_
    show Steps p.tables e below (T1.setTop (mkF m 9 #[.val (.ref o0), .val (.int i), .val (.double d0), .second] [])) _
    refine XS.aloadN X1.here hx rfl (hb hby d10_9) rfl rfl ?_
    refine st3 _ ?_
    show Steps p.tables e below (T3.setTop (mkF m 13 #[.val (.ref o0), .val (.int i), .val (.double d0), .second] [(.ref l0)])) _
    refine XS.iloadN X3.here hx rfl (hb hby d10_13) rfl ?_
    refine XS.iconst X3.here hx rfl (hb hby d10_14) ?_
    refine st5 _ ?_
    show Steps p.tables e below (T5.setTop (mkF m 16 #[.val (.ref o0), .val (.int i), .val (.double d0), .second] [])) _
    refine XS.aloadN X5.here hx rfl (hb hby d10_16) rfl rfl ?_
    show Steps p.tables e below (T5.setTop (mkF m 17 #[.val (.ref o0), .val (.int i), .val (.double d0), .second] [(.ref o0)])) _
    refine st14 _ ?_
    show Steps p.tables e below (T14.setTop (mkF m 20 #[.val (.ref o0), .val (.int i), .val (.double d0), .second] [(.ref w0)])) _
    refine XS.aloadN X14.here hx rfl (hb hby d10_20) rfl rfl ?_
    refine XS.dup X14.here hx rfl (hb hby d10_21) rfl rfl ?_
    refine st15 _ ?_
    show Steps p.tables e below (T15.setTop (mkF m 25 #[.val (.ref o0), .val (.int i), .val (.double d0), .second] [(.int A.1), (.ref o0), (.ref w0)])) _
    refine XS.dupX1 X15.here hx rfl (hb hby d10_25) rfl rfl rfl ?_
    refine XS.iconst X15.here hx rfl (hb hby d10_26) ?_
    show Steps p.tables e below (T15.setTop (mkF m 27 #[.val (.ref o0), .val (.int i), .val (.double d0), .second] [(.int (1 : Int32)), (.int A.1), (.ref o0), (.int A.1), (.ref w0)])) _
    refine XS.iadd X15.here hx rfl (hb hby d10_27) rfl ?_
    refine st16 _ ?_
    show Steps p.tables e below (T16.setTop (mkF m 31 #[.val (.ref o0), .val (.int i), .val (.double d0), .second] [(.int A.1), (.ref w0)])) _
    refine XS.iloadN X16.here hx rfl (hb hby d10_31) rfl ?_
    refine st26 _ ?_
    show Steps p.tables e below (T26.setTop (mkF m 33 #[.val (.ref o0), .val (.int i), .val (.double d0), .second] [])) _
    refine XS.aloadN X26.here hx rfl (hb hby d10_33) rfl rfl ?_
    refine st35 _ ?_
    show Steps p.tables e below (T35.setTop (mkF m 37 #[.val (.ref o0), .val (.int i), .val (.double d0), .second] [(.ref v0)])) _
    refine XS.iloadN X35.here hx rfl (hb hby d10_37) rfl ?_
    jvm_step X35.here [X35.here.top, hx, (hb hby d10_38), Value.category]
    show Steps p.tables e below (T35.setTop (mkF m 39 #[.val (.ref o0), .val (.int i), .val (.double d0), .second] [(.int i), (.ref v0), (.int i), (.ref v0)])) _
    refine X35.daload hx (j := i) (v := (.double dx)) (by rw [e35]; exact Arq36.1) (State.isArrayOf_alike hZ.alike Arq36.2.1) Arq36.2.2 (inb_of Sq36 hix) (Has.at Hq36 (inb_of Sq36 hix) hrv) (g := (mkF m 39 #[.val (.ref o0), .val (.int i), .val (.double d0), .second] [(.int i), (.ref v0), (.int i), (.ref v0)])) rfl rfl (hb hby d10_39) _ ?_
    show Steps p.tables e below (T35.setTop (mkF m 40 #[.val (.ref o0), .val (.int i), .val (.double d0), .second] [(.double dx), (.int i), (.ref v0)])) _
    refine XS.dloadN X35.here hx rfl (hb hby d10_40) rfl ?_
    refine XS.daddS X35.here hx rfl (hb hby d10_41) rfl nn41 (v := dy) hq41 ?_
    refine st38 _ ?_
    show Steps p.tables e below (T38.setTop (mkF m 43 #[.val (.ref o0), .val (.int i), .val (.double d0), .second] [])) _
    exact X38.returnOut hx Bd.returns (hb hby d10_43) hr
  · show Q_addN Z o0 v0 l0 w0 kv kl kw A B i d0 dx dy h0 n0 _ T38.heap _
    rw [e38]
    exact ⟨rfl, N38, K38, f43, f39, f40, f41, f50, f47, f48, f49⟩
def Q_addM (Z : State) (o0 : Addr) (v0 : Addr) (l0 : Addr) (w0 : Addr) (kv : ClassId) (kl : ClassId) (kw : ClassId) (A : Jvm.OwnSC.OwnSt) (B : Jvm.OwnSC.OwnSt) (i : Int32) (d0 : UInt64) (h0 : Heap) (n0 : Nat) (v : Option Value) (h : Heap) (L : List Loc) : Prop := v = none ∧ Fr n0 L ∧ Keep h0 h [o0, v0, l0, w0] ∧ Exa Z h o0 "com/example/leeway/leeway/lp/SparseColumn" ∧ Fld Z h o0 "com/example/leeway/leeway/lp/SparseColumn" "values" "[D" (.ref v0) ∧ Fld Z h o0 "com/example/leeway/leeway/lp/SparseColumn" "listed" "[Z" (.ref l0) ∧ Fld Z h o0 "com/example/leeway/leeway/lp/SparseColumn" "rows" "[I" (.ref w0) ∧ Fld Z h o0 "com/example/leeway/leeway/lp/SparseColumn" "count" "I" (.int B.1) ∧ Arv Z h v0 kv .double (4 : Int32) B.2.2.2 (.double (0 : UInt64)) ∧ Arv Z h l0 kl .boolean (4 : Int32) B.2.2.1 (.int (0 : Int32)) ∧ Arv Z h w0 kw .int (4 : Int32) B.2.1 (.int (0 : Int32))
set_option maxHeartbeats 40000000 in
theorem addM (l : Launch) (Z : State) (a0 : Array Value) (hw : ∀ d ∈ tables_1, d.before a0 Z = true) (ws : List Jvm.Cond) (o0 : Addr) (v0 : Addr) (l0 : Addr) (w0 : Addr) (kv : ClassId) (kl : ClassId) (kw : ClassId) (A : Jvm.OwnSC.OwnSt) (B : Jvm.OwnSC.OwnSt) (i : Int32) (d0 : UInt64) (h0 : Heap) (n0 : Nat) (Z0 : n0 ≤ h0.size) (F_values_o0 : Fld Z h0 o0 "com/example/leeway/leeway/lp/SparseColumn" "values" "[D" (.ref v0)) (F_listed_o0 : Fld Z h0 o0 "com/example/leeway/leeway/lp/SparseColumn" "listed" "[Z" (.ref l0)) (F_rows_o0 : Fld Z h0 o0 "com/example/leeway/leeway/lp/SparseColumn" "rows" "[I" (.ref w0)) (F_count_o0 : Fld Z h0 o0 "com/example/leeway/leeway/lp/SparseColumn" "count" "I" (.int A.1)) (E_o0 : Exa Z h0 o0 "com/example/leeway/leeway/lp/SparseColumn") (V_v0 : Arv Z h0 v0 kv .double (4 : Int32) A.2.2.2 (.double (0 : UInt64))) (V_l0 : Arv Z h0 l0 kl .boolean (4 : Int32) A.2.2.1 (.int (0 : Int32))) (V_w0 : Arv Z h0 w0 kw .int (4 : Int32) A.2.1 (.int (0 : Int32))) (g_o0 : n0 ≤ o0) (g_v0 : n0 ≤ v0) (g_l0 : n0 ≤ l0) (g_w0 : n0 ≤ w0) (ne_o0_v0 : o0 ≠ v0) (ne_o0_l0 : o0 ≠ l0) (ne_o0_w0 : o0 ≠ w0) (ne_v0_l0 : v0 ≠ l0) (ne_v0_w0 : v0 ≠ w0) (ne_l0_w0 : l0 ≠ w0) (hadd : Jvm.OwnSC.AddR A B i d0) :
    MetFree l (⟨"com/example/leeway/leeway/lp/SparseColumn", "add", "(ID)V"⟩ : MethodName) (head1 (Jvm.Cond.code (⟨"com/example/leeway/leeway/lp/SparseColumn", "add", "(ID)V"⟩ : MethodName) prog_87_method_6_code 4 none :: ws) ({ frames := 0, cells := 0, slots := 0, locals := 0 } : Room)) (fun a U => a = #[(.ref o0), (.int i), (.double d0)] ∧ Z.Warmed39 U.vm ∧ U.heap = h0) (fun _ _ _ _ _ => True) (fun _ U o U' => ∃ v L, o = .returned v ∧ Q_addM Z o0 v0 l0 w0 kv kl kw A B i d0 h0 n0 v U'.heap L ∧ FrameEnd U o U' L ({ frames := 0, cells := 0, slots := 0, locals := 0 } : Room).cells ({ frames := 0, cells := 0, slots := 0, locals := 0 } : Room).slots) := by
  obtain ⟨dx, hn, q1, q2, q3, q4, ⟨q5, q6, q7, q8⟩ | ⟨q5, q6, q7, q8, q9, q10, q11⟩⟩ := hadd
  · exact addL l Z a0 hw ws o0 v0 l0 w0 kv kl kw A B i d0 _ _ h0 n0 Z0 (F_values_o0 := F_values_o0) (F_listed_o0 := F_listed_o0) (F_rows_o0 := F_rows_o0) (F_count_o0 := F_count_o0) (E_o0 := E_o0) (V_v0 := V_v0) (V_l0 := V_l0) (V_w0 := V_w0) (g_o0 := g_o0) (g_v0 := g_v0) (g_l0 := g_l0) (g_w0 := g_w0) (ne_o0_v0 := ne_o0_v0) (ne_o0_l0 := ne_o0_l0) (ne_o0_w0 := ne_o0_w0) (ne_v0_l0 := ne_v0_l0) (ne_v0_w0 := ne_v0_w0) (ne_l0_w0 := ne_l0_w0) (nn41 := hn) (hq41 := rfl) (hix := q1) (hrv := q2) (hvl := q3) (hvs := q4) (hrl := q5) (hcn := q6) (hrs := q7) (hls := q8)
  · exact addN l Z a0 hw ws o0 v0 l0 w0 kv kl kw A B i d0 _ _ h0 n0 Z0 (F_values_o0 := F_values_o0) (F_listed_o0 := F_listed_o0) (F_rows_o0 := F_rows_o0) (F_count_o0 := F_count_o0) (E_o0 := E_o0) (V_v0 := V_v0) (V_l0 := V_l0) (V_w0 := V_w0) (g_o0 := g_o0) (g_v0 := g_v0) (g_l0 := g_l0) (g_w0 := g_w0) (ne_o0_v0 := ne_o0_v0) (ne_o0_l0 := ne_o0_l0) (ne_o0_w0 := ne_o0_w0) (ne_v0_l0 := ne_v0_l0) (ne_v0_w0 := ne_v0_w0) (ne_l0_w0 := ne_l0_w0) (nn41 := hn) (hq41 := rfl) (hix := q1) (hrv := q2) (hvl := q3) (hvs := q4) (hrl := q5) (hll := q6) (hls := q7) (hcx := q8) (hrn := q9) (hrs := q10) (hcn := q11)
theorem d3_16 : decode prog_87_method_7_code 16 = .ok (.aload_n 0, 1) := by decide +kernel
theorem d3_17 : decode prog_87_method_7_code 17 = .ok (.getfield 13, 3) := by decide +kernel
theorem d3_20 : decode prog_87_method_7_code 20 = .ok (.iload 8, 2) := by decide +kernel
theorem d3_22 : decode prog_87_method_7_code 22 = .ok (.baload, 1) := by decide +kernel
theorem d3_23 : decode prog_87_method_7_code 23 = .ok (.ifCond .ne 29, 3) := by decide +kernel
theorem d3_52 : decode prog_87_method_7_code 52 = .ok (.aload_n 0, 1) := by decide +kernel
theorem d3_53 : decode prog_87_method_7_code 53 = .ok (.getfield 7, 3) := by decide +kernel
theorem d3_56 : decode prog_87_method_7_code 56 = .ok (.iload 8, 2) := by decide +kernel
theorem d3_58 : decode prog_87_method_7_code 58 = .ok (.dup2, 1) := by decide +kernel
theorem d3_59 : decode prog_87_method_7_code 59 = .ok (.daload, 1) := by decide +kernel
theorem d3_60 : decode prog_87_method_7_code 60 = .ok (.aload_n 2, 1) := by decide +kernel
theorem d3_61 : decode prog_87_method_7_code 61 = .ok (.iload 7, 2) := by decide +kernel
theorem d3_63 : decode prog_87_method_7_code 63 = .ok (.daload, 1) := by decide +kernel
theorem d3_64 : decode prog_87_method_7_code 64 = .ok (.dload 5, 2) := by decide +kernel
theorem d3_66 : decode prog_87_method_7_code 66 = .ok (.dmul, 1) := by decide +kernel
theorem d3_67 : decode prog_87_method_7_code 67 = .ok (.dsub, 1) := by decide +kernel
theorem d3_68 : decode prog_87_method_7_code 68 = .ok (.dastore, 1) := by decide +kernel
theorem d3_69 : decode prog_87_method_7_code 69 = .ok (.iinc 7 1, 3) := by decide +kernel
theorem d3_72 : decode prog_87_method_7_code 72 = .ok (.goto (-69), 3) := by decide +kernel
def Q_trnL (Z : State) (o0 : Addr) (v0 : Addr) (l0 : Addr) (w0 : Addr) (kv : ClassId) (kl : ClassId) (kw : ClassId) (t1 : Addr) (t2 : Addr) (kt : ClassId) (us : List Value) (A : Jvm.OwnSC.OwnSt) (B : Jvm.OwnSC.OwnSt) (fr : Int32) (tt : Int32) (fa : UInt64) (ix : Int32) (rw : Int32) (u : UInt64) (dx : UInt64) (dy : UInt64) (h0 : Heap) (h : Heap) : Prop := Keep h0 h [o0, v0, l0, w0] ∧ Exa Z h o0 "com/example/leeway/leeway/lp/SparseColumn" ∧ Fld Z h o0 "com/example/leeway/leeway/lp/SparseColumn" "values" "[D" (.ref v0) ∧ Fld Z h o0 "com/example/leeway/leeway/lp/SparseColumn" "listed" "[Z" (.ref l0) ∧ Fld Z h o0 "com/example/leeway/leeway/lp/SparseColumn" "rows" "[I" (.ref w0) ∧ Fld Z h o0 "com/example/leeway/leeway/lp/SparseColumn" "count" "I" (.int B.1) ∧ Arv Z h v0 kv .double (4 : Int32) B.2.2.2 (.double (0 : UInt64)) ∧ Arv Z h l0 kl .boolean (4 : Int32) B.2.2.1 (.int (0 : Int32)) ∧ Arv Z h w0 kw .int (4 : Int32) B.2.1 (.int (0 : Int32))
set_option maxRecDepth 65536 in
set_option maxHeartbeats 40000000 in
theorem trnL (l : Launch) (Z : State) (a0 : Array Value) (hw : ∀ d ∈ tables_1, d.before a0 Z = true) (o0 : Addr) (v0 : Addr) (l0 : Addr) (w0 : Addr) (kv : ClassId) (kl : ClassId) (kw : ClassId) (t1 : Addr) (t2 : Addr) (kt : ClassId) (us : List Value) (A : Jvm.OwnSC.OwnSt) (B : Jvm.OwnSC.OwnSt) (fr : Int32) (tt : Int32) (fa : UInt64) (ix : Int32) (rw : Int32) (u : UInt64) (dx : UInt64) (dy : UInt64) (h0 : Heap) (n0 : Nat) (Z0 : n0 ≤ h0.size) (F_values_o0 : Fld Z h0 o0 "com/example/leeway/leeway/lp/SparseColumn" "values" "[D" (.ref v0)) (F_listed_o0 : Fld Z h0 o0 "com/example/leeway/leeway/lp/SparseColumn" "listed" "[Z" (.ref l0)) (F_rows_o0 : Fld Z h0 o0 "com/example/leeway/leeway/lp/SparseColumn" "rows" "[I" (.ref w0)) (F_count_o0 : Fld Z h0 o0 "com/example/leeway/leeway/lp/SparseColumn" "count" "I" (.int A.1)) (E_o0 : Exa Z h0 o0 "com/example/leeway/leeway/lp/SparseColumn") (V_v0 : Arv Z h0 v0 kv .double (4 : Int32) A.2.2.2 (.double (0 : UInt64))) (V_l0 : Arv Z h0 l0 kl .boolean (4 : Int32) A.2.2.1 (.int (0 : Int32))) (V_w0 : Arv Z h0 w0 kw .int (4 : Int32) A.2.1 (.int (0 : Int32))) (g_o0 : n0 ≤ o0) (g_v0 : n0 ≤ v0) (g_l0 : n0 ≤ l0) (g_w0 : n0 ≤ w0) (ne_o0_v0 : o0 ≠ v0) (ne_o0_l0 : o0 ≠ l0) (ne_o0_w0 : o0 ≠ w0) (ne_v0_l0 : v0 ≠ l0) (ne_v0_w0 : v0 ≠ w0) (ne_l0_w0 : l0 ≠ w0) (V_t2 : Arv Z h0 t2 kt .double (3 : Int32) us (.double (0 : UInt64))) (ne_o0_t2 : o0 ≠ t2) (ne_v0_t2 : v0 ≠ t2) (ne_l0_t2 : l0 ≠ t2) (ne_w0_t2 : w0 ≠ t2) (hix : ¬ rw < 0 ∧ rw < (4 : Int32)) (hrl : A.2.2.1.getD rw.toNatClampNeg (.int (0 : Int32)) = .int (1 : Int32)) (hrv : A.2.2.2.getD rw.toNatClampNeg (.double (0 : UInt64)) = .double dx) (hvl : rw.toNatClampNeg < A.2.2.2.length) (hvs : (A.2.2.2.set rw.toNatClampNeg (.double dy)) = B.2.2.2) (hcn : A.1 = B.1) (hrs : A.2.1 = B.2.1) (hls : A.2.2.1 = B.2.2.1) (hiu : ¬ ix < 0 ∧ ix < (3 : Int32)) (hru : us.getD ix.toNatClampNeg (.double (0 : UInt64)) = .double u) (nn66 : Jvm.Free.Fl.NoNaN64 (FP.dmul u fa)) (nn67 : Jvm.Free.Fl.NoNaN64 (FP.dsub dx (FP.dmul u fa))) (hq67 : (FP.dsub dx (FP.dmul u fa)) = dy)
    {p : Program} {e : Env} {R : Room} {s : State} {m : MethodId} {args : Array Value} {below : List Frame} {meth : Method} {c : Code} {T0 : State} {locs0 : List Loc} {cells0 slots0 : Nat}
    (hx : p.tables.exec = Jvm.exec) (hby : c.code = prog_87_method_7_code) (hml : c.maxLocals = 9) (hown : s.vm.findClass "com/example/leeway/leeway/lp/SparseColumn" = some m.cls) (hZ : Z.Warmed39 s.vm) (X0 : Stand p l e R s m args below meth c T0 locs0 cells0 slots0) (e0 : T0.heap = h0) (N0 : Fr n0 locs0) :
    ∃ T' L, Stand p l e R s m args below meth c T' L cells0 slots0 ∧ Fr n0 L ∧ Q_trnL Z o0 v0 l0 w0 kv kl kw t1 t2 kt us A B fr tt fa ix rw u dx dy h0 T'.heap ∧ ∀ target, Steps p.tables e below (T'.setTop (mkF m 3 #[.val (.ref o0), .val (.ref t1), .val (.ref t2), .val (.int fr), .val (.int tt), .val (.double fa), .second, .val (.int (ix + (1 : Int32))), .val (.int rw)] [])) target → Steps p.tables e below (T0.setTop (mkF m 16 #[.val (.ref o0), .val (.ref t1), .val (.ref t2), .val (.int fr), .val (.int tt), .val (.double fa), .second, .val (.int ix), .val (.int rw)] [])) target := by
  obtain ⟨T1, X1, e1, st1⟩ := getF X0 hx hZ hown (host := "") (Or.inl (hw _ (List.mem_of_getElem? (i := 14) rfl))) Via.refl e0 F_listed_o0 (g := (mkF m 17 #[.val (.ref o0), .val (.ref t1), .val (.ref t2), .val (.int fr), .val (.int tt), .val (.double fa), .second, .val (.int ix), .val (.int rw)] [(.ref o0)])) rfl rfl (hb hby d3_17)
  obtain ⟨cq2, Arq2, -, Sq2, -, Hq2, -⟩ := id V_l0
  obtain ⟨T3, X3, e3, st3⟩ := getF X1 hx hZ hown (host := "") (Or.inl (hw _ (List.mem_of_getElem? (i := 12) rfl))) Via.refl e1 F_values_o0 (g := (mkF m 53 #[.val (.ref o0), .val (.ref t1), .val (.ref t2), .val (.int fr), .val (.int tt), .val (.double fa), .second, .val (.int ix), .val (.int rw)] [(.ref o0)])) rfl rfl (hb hby d3_53)
  obtain ⟨cq4, Arq4, -, Sq4, -, Hq4, -⟩ := id V_v0
  obtain ⟨cq5, Arq5, -, Sq5, -, Hq5, -⟩ := id V_t2
  obtain ⟨cq6, Arq6, qq6, Sq6, Nq6, Hq6, Gq6⟩ := id V_v0
  obtain ⟨T7, h7, X7, e7, W7, st7⟩ := stD X3 hx hZ e3 Arq6 (j := rw) (inb_of Sq6 hix) (g := (mkF m 68 #[.val (.ref o0), .val (.ref t1), .val (.ref t2), .val (.int fr), .val (.int tt), .val (.double fa), .second, .val (.int ix), .val (.int rw)] [(.double dy), (.int rw), (.ref v0)])) rfl rfl (hb hby d3_68)
  have f8 := F_values_o0.other W7 (Or.inl ne_o0_v0)
  have f9 := F_listed_o0.other W7 (Or.inl ne_o0_v0)
  have f10 := F_rows_o0.other W7 (Or.inl ne_o0_v0)
  have f11 := F_count_o0.other W7 (Or.inl ne_o0_v0)
  have f12 := E_o0.wr W7
  have f13 := V_l0.other W7 (Ne.symm ne_v0_l0)
  have f14 := V_w0.other W7 (Ne.symm ne_v0_w0)
  have f15 := V_t2.other W7 (Ne.symm ne_v0_t2)
  have K7 : Keep h0 h7 [o0, v0, l0, w0] := (Keep.refl h0 [o0, v0, l0, w0]).wr W7 (Or.inl (List.mem_of_getElem? (i := 1) rfl))
  have Zs7 := Nat.le_trans Z0 (Keep.of_wr W7).1
  have N7 := Fr.snoc X7 N0 g_v0
  have f16 : Arv Z h7 v0 kv .double (4 : Int32) (A.2.2.2.set rw.toNatClampNeg (.double dy)) (.double (0 : UInt64)) := Arv.set Arq6 qq6 Sq6 Nq6 Hq6 Gq6 rfl W7 rw.toNatClampNeg rfl hvl
  have f17 := own_arvL (vs1 := B.2.2.2) (hvs : ((A.2.2.2.set rw.toNatClampNeg (.double dy)) : List Value) = B.2.2.2) f16
  have f18 := own_arvL (vs1 := B.2.2.1) (hls : (A.2.2.1 : List Value) = B.2.2.1) f13
  have f19 := own_arvL (vs1 := B.2.1) (hrs : (A.2.1 : List Value) = B.2.1) f14
  have f20 := own_fldV (v1 := (.int B.1)) (congrArg Value.int hcn) f11
  refine ⟨T7, _, X7, N7, ?_, fun target kt => ?_⟩
  · show Q_trnL Z o0 v0 l0 w0 kv kl kw t1 t2 kt us A B fr tt fa ix rw u dx dy h0 T7.heap
    rw [e7]
    exact ⟨K7, f12, f8, f9, f10, f20, f17, f18, f19⟩
  · show Steps p.tables e below (T0.setTop (mkF m 16 #[.val (.ref o0), .val (.ref t1), .val (.ref t2), .val (.int fr), .val (.int tt), .val (.double fa), .second, .val (.int ix), .val (.int rw)] [])) _
    refine XS.aloadN X0.here hx rfl (hb hby d3_16) rfl rfl ?_
    refine st1 _ ?_
    show Steps p.tables e below (T1.setTop (mkF m 20 #[.val (.ref o0), .val (.ref t1), .val (.ref t2), .val (.int fr), .val (.int tt), .val (.double fa), .second, .val (.int ix), .val (.int rw)] [(.ref l0)])) _
    refine XS.iload X1.here hx rfl (hb hby d3_20) rfl ?_
    refine X1.baloadBooleans hx (j := rw) (v := (.int (1 : Int32))) (by rw [e1]; exact Arq2.1) (State.isArrayOf_alike hZ.alike Arq2.2.1) Arq2.2.2 (inb_of Sq2 hix) (Has.at Hq2 (inb_of Sq2 hix) hrl) (g := (mkF m 22 #[.val (.ref o0), .val (.ref t1), .val (.ref t2), .val (.int fr), .val (.int tt), .val (.double fa), .second, .val (.int ix), .val (.int rw)] [(.int rw), (.ref l0)])) rfl rfl (hb hby d3_22) _ ?_
    show Steps p.tables e below (T1.setTop (mkF m 23 #[.val (.ref o0), .val (.ref t1), .val (.ref t2), .val (.int fr), .val (.int tt), .val (.double fa), .second, .val (.int ix), .val (.int rw)] [(.int (1 : Int32))])) _
    refine XS.ifYes X1.here hx rfl (pc0 := 23) (pc' := 52) rfl (hb hby d3_23) rfl ((if0 _ _).trans (feq (by decide : ¬ ((1 : Int32) = (0 : Int32)))).2) (by decide) (by decide) ?_
    show Steps p.tables e below (T1.setTop (mkF m 52 #[.val (.ref o0), .val (.ref t1), .val (.ref t2), .val (.int fr), .val (.int tt), .val (.double fa), .second, .val (.int ix), .val (.int rw)] [])) _
    refine XS.aloadN X1.here hx rfl (hb hby d3_52) rfl rfl ?_
    refine st3 _ ?_
    show Steps p.tables e below (T3.setTop (mkF m 56 #[.val (.ref o0), .val (.ref t1), .val (.ref t2), .val (.int fr), .val (.int tt), .val (.double fa), .second, .val (.int ix), .val (.int rw)] [(.ref v0)])) _
    refine XS.iload X3.here hx rfl (hb hby d3_56) rfl ?_
    jvm_step X3.here [X3.here.top, hx, (hb hby d3_58), Value.category]
    show Steps p.tables e below (T3.setTop (mkF m 59 #[.val (.ref o0), .val (.ref t1), .val (.ref t2), .val (.int fr), .val (.int tt), .val (.double fa), .second, .val (.int ix), .val (.int rw)] [(.int rw), (.ref v0), (.int rw), (.ref v0)])) _
    refine X3.daload hx (j := rw) (v := (.double dx)) (by rw [e3]; exact Arq4.1) (State.isArrayOf_alike hZ.alike Arq4.2.1) Arq4.2.2 (inb_of Sq4 hix) (Has.at Hq4 (inb_of Sq4 hix) hrv) (g := (mkF m 59 #[.val (.ref o0), .val (.ref t1), .val (.ref t2), .val (.int fr), .val (.int tt), .val (.double fa), .second, .val (.int ix), .val (.int rw)] [(.int rw), (.ref v0), (.int rw), (.ref v0)])) rfl rfl (hb hby d3_59) _ ?_
    show Steps p.tables e below (T3.setTop (mkF m 60 #[.val (.ref o0), .val (.ref t1), .val (.ref t2), .val (.int fr), .val (.int tt), .val (.double fa), .second, .val (.int ix), .val (.int rw)] [(.double dx), (.int rw), (.ref v0)])) _
    refine XS.aloadN X3.here hx rfl (hb hby d3_60) rfl rfl ?_
    show Steps p.tables e below (T3.setTop (mkF m 61 #[.val (.ref o0), .val (.ref t1), .val (.ref t2), .val (.int fr), .val (.int tt), .val (.double fa), .second, .val (.int ix), .val (.int rw)] [(.ref t2), (.double dx), (.int rw), (.ref v0)])) _
    refine XS.iload X3.here hx rfl (hb hby d3_61) rfl ?_
    refine X3.daload hx (j := ix) (v := (.double u)) (by rw [e3]; exact Arq5.1) (State.isArrayOf_alike hZ.alike Arq5.2.1) Arq5.2.2 (inb_of Sq5 hiu) (Has.at Hq5 (inb_of Sq5 hiu) hru) (g := (mkF m 63 #[.val (.ref o0), .val (.ref t1), .val (.ref t2), .val (.int fr), .val (.int tt), .val (.double fa), .second, .val (.int ix), .val (.int rw)] [(.int ix), (.ref t2), (.double dx), (.int rw), (.ref v0)])) rfl rfl (hb hby d3_63) _ ?_
    show Steps p.tables e below (T3.setTop (mkF m 64 #[.val (.ref o0), .val (.ref t1), .val (.ref t2), .val (.int fr), .val (.int tt), .val (.double fa), .second, .val (.int ix), .val (.int rw)] [(.double u), (.double dx), (.int rw), (.ref v0)])) _
    refine XS.dload X3.here hx rfl (hb hby d3_64) rfl ?_
    refine XS.dmulS X3.here hx rfl (hb hby d3_66) rfl nn66 (v := (FP.dmul u fa)) rfl ?_
    refine XS.dsubS X3.here hx rfl (hb hby d3_67) rfl nn67 (v := dy) hq67 ?_
    refine st7 _ ?_
    show Steps p.tables e below (T7.setTop (mkF m 69 #[.val (.ref o0), .val (.ref t1), .val (.ref t2), .val (.int fr), .val (.int tt), .val (.double fa), .second, .val (.int ix), .val (.int rw)] [])) _
    refine XS.iinc X7.here hx rfl (hb hby d3_69) rfl (l' := #[.val (.ref o0), .val (.ref t1), .val (.ref t2), .val (.int fr), .val (.int tt), .val (.double fa), .second, .val (.int (ix + (1 : Int32))), .val (.int rw)]) rfl ?_
    refine XS.goto X7.here hx rfl (pc0 := 72) (pc' := 3) rfl (hb hby d3_72) (by decide) (by decide) ?_
    exact kt
theorem d3_26 : decode prog_87_method_7_code 26 = .ok (.aload_n 0, 1) := by decide +kernel
theorem d3_27 : decode prog_87_method_7_code 27 = .ok (.getfield 13, 3) := by decide +kernel
theorem d3_30 : decode prog_87_method_7_code 30 = .ok (.iload 8, 2) := by decide +kernel
theorem d3_32 : decode prog_87_method_7_code 32 = .ok (.iconst 1, 1) := by decide +kernel
theorem d3_33 : decode prog_87_method_7_code 33 = .ok (.bastore, 1) := by decide +kernel
theorem d3_34 : decode prog_87_method_7_code 34 = .ok (.aload_n 0, 1) := by decide +kernel
theorem d3_35 : decode prog_87_method_7_code 35 = .ok (.getfield 17, 3) := by decide +kernel
theorem d3_38 : decode prog_87_method_7_code 38 = .ok (.aload_n 0, 1) := by decide +kernel
theorem d3_39 : decode prog_87_method_7_code 39 = .ok (.dup, 1) := by decide +kernel
theorem d3_40 : decode prog_87_method_7_code 40 = .ok (.getfield 21, 3) := by decide +kernel
theorem d3_43 : decode prog_87_method_7_code 43 = .ok (.dup_x1, 1) := by decide +kernel
theorem d3_44 : decode prog_87_method_7_code 44 = .ok (.iconst 1, 1) := by decide +kernel
theorem d3_45 : decode prog_87_method_7_code 45 = .ok (.iadd, 1) := by decide +kernel
theorem d3_46 : decode prog_87_method_7_code 46 = .ok (.putfield 21, 3) := by decide +kernel
theorem d3_49 : decode prog_87_method_7_code 49 = .ok (.iload 8, 2) := by decide +kernel
theorem d3_51 : decode prog_87_method_7_code 51 = .ok (.iastore, 1) := by decide +kernel
def Q_trnN (Z : State) (o0 : Addr) (v0 : Addr) (l0 : Addr) (w0 : Addr) (kv : ClassId) (kl : ClassId) (kw : ClassId) (t1 : Addr) (t2 : Addr) (kt : ClassId) (us : List Value) (A : Jvm.OwnSC.OwnSt) (B : Jvm.OwnSC.OwnSt) (fr : Int32) (tt : Int32) (fa : UInt64) (ix : Int32) (rw : Int32) (u : UInt64) (dx : UInt64) (dy : UInt64) (h0 : Heap) (h : Heap) : Prop := Keep h0 h [o0, v0, l0, w0] ∧ Exa Z h o0 "com/example/leeway/leeway/lp/SparseColumn" ∧ Fld Z h o0 "com/example/leeway/leeway/lp/SparseColumn" "values" "[D" (.ref v0) ∧ Fld Z h o0 "com/example/leeway/leeway/lp/SparseColumn" "listed" "[Z" (.ref l0) ∧ Fld Z h o0 "com/example/leeway/leeway/lp/SparseColumn" "rows" "[I" (.ref w0) ∧ Fld Z h o0 "com/example/leeway/leeway/lp/SparseColumn" "count" "I" (.int B.1) ∧ Arv Z h v0 kv .double (4 : Int32) B.2.2.2 (.double (0 : UInt64)) ∧ Arv Z h l0 kl .boolean (4 : Int32) B.2.2.1 (.int (0 : Int32)) ∧ Arv Z h w0 kw .int (4 : Int32) B.2.1 (.int (0 : Int32))
set_option maxRecDepth 65536 in
set_option maxHeartbeats 40000000 in
theorem trnN (l : Launch) (Z : State) (a0 : Array Value) (hw : ∀ d ∈ tables_1, d.before a0 Z = true) (o0 : Addr) (v0 : Addr) (l0 : Addr) (w0 : Addr) (kv : ClassId) (kl : ClassId) (kw : ClassId) (t1 : Addr) (t2 : Addr) (kt : ClassId) (us : List Value) (A : Jvm.OwnSC.OwnSt) (B : Jvm.OwnSC.OwnSt) (fr : Int32) (tt : Int32) (fa : UInt64) (ix : Int32) (rw : Int32) (u : UInt64) (dx : UInt64) (dy : UInt64) (h0 : Heap) (n0 : Nat) (Z0 : n0 ≤ h0.size) (F_values_o0 : Fld Z h0 o0 "com/example/leeway/leeway/lp/SparseColumn" "values" "[D" (.ref v0)) (F_listed_o0 : Fld Z h0 o0 "com/example/leeway/leeway/lp/SparseColumn" "listed" "[Z" (.ref l0)) (F_rows_o0 : Fld Z h0 o0 "com/example/leeway/leeway/lp/SparseColumn" "rows" "[I" (.ref w0)) (F_count_o0 : Fld Z h0 o0 "com/example/leeway/leeway/lp/SparseColumn" "count" "I" (.int A.1)) (E_o0 : Exa Z h0 o0 "com/example/leeway/leeway/lp/SparseColumn") (V_v0 : Arv Z h0 v0 kv .double (4 : Int32) A.2.2.2 (.double (0 : UInt64))) (V_l0 : Arv Z h0 l0 kl .boolean (4 : Int32) A.2.2.1 (.int (0 : Int32))) (V_w0 : Arv Z h0 w0 kw .int (4 : Int32) A.2.1 (.int (0 : Int32))) (g_o0 : n0 ≤ o0) (g_v0 : n0 ≤ v0) (g_l0 : n0 ≤ l0) (g_w0 : n0 ≤ w0) (ne_o0_v0 : o0 ≠ v0) (ne_o0_l0 : o0 ≠ l0) (ne_o0_w0 : o0 ≠ w0) (ne_v0_l0 : v0 ≠ l0) (ne_v0_w0 : v0 ≠ w0) (ne_l0_w0 : l0 ≠ w0) (V_t2 : Arv Z h0 t2 kt .double (3 : Int32) us (.double (0 : UInt64))) (ne_o0_t2 : o0 ≠ t2) (ne_v0_t2 : v0 ≠ t2) (ne_l0_t2 : l0 ≠ t2) (ne_w0_t2 : w0 ≠ t2) (hix : ¬ rw < 0 ∧ rw < (4 : Int32)) (hrl : A.2.2.1.getD rw.toNatClampNeg (.int (0 : Int32)) = .int (0 : Int32)) (hrv : A.2.2.2.getD rw.toNatClampNeg (.double (0 : UInt64)) = .double dx) (hvl : rw.toNatClampNeg < A.2.2.2.length) (hvs : (A.2.2.2.set rw.toNatClampNeg (.double dy)) = B.2.2.2) (hll : rw.toNatClampNeg < A.2.2.1.length) (hls : (A.2.2.1.set rw.toNatClampNeg (.int (1 : Int32))) = B.2.2.1) (hcx : ¬ A.1 < 0 ∧ A.1 < (4 : Int32)) (hrn : A.1.toNatClampNeg < A.2.1.length) (hrs : (A.2.1.set A.1.toNatClampNeg (.int rw)) = B.2.1) (hcn : (A.1 + (1 : Int32)) = B.1) (hiu : ¬ ix < 0 ∧ ix < (3 : Int32)) (hru : us.getD ix.toNatClampNeg (.double (0 : UInt64)) = .double u) (nn66 : Jvm.Free.Fl.NoNaN64 (FP.dmul u fa)) (nn67 : Jvm.Free.Fl.NoNaN64 (FP.dsub dx (FP.dmul u fa))) (hq67 : (FP.dsub dx (FP.dmul u fa)) = dy)
    {p : Program} {e : Env} {R : Room} {s : State} {m : MethodId} {args : Array Value} {below : List Frame} {meth : Method} {c : Code} {T0 : State} {locs0 : List Loc} {cells0 slots0 : Nat}
    (hx : p.tables.exec = Jvm.exec) (hby : c.code = prog_87_method_7_code) (hml : c.maxLocals = 9) (hown : s.vm.findClass "com/example/leeway/leeway/lp/SparseColumn" = some m.cls) (hZ : Z.Warmed39 s.vm) (X0 : Stand p l e R s m args below meth c T0 locs0 cells0 slots0) (e0 : T0.heap = h0) (N0 : Fr n0 locs0) :
    ∃ T' L, Stand p l e R s m args below meth c T' L cells0 slots0 ∧ Fr n0 L ∧ Q_trnN Z o0 v0 l0 w0 kv kl kw t1 t2 kt us A B fr tt fa ix rw u dx dy h0 T'.heap ∧ ∀ target, Steps p.tables e below (T'.setTop (mkF m 3 #[.val (.ref o0), .val (.ref t1), .val (.ref t2), .val (.int fr), .val (.int tt), .val (.double fa), .second, .val (.int (ix + (1 : Int32))), .val (.int rw)] [])) target → Steps p.tables e below (T0.setTop (mkF m 16 #[.val (.ref o0), .val (.ref t1), .val (.ref t2), .val (.int fr), .val (.int tt), .val (.double fa), .second, .val (.int ix), .val (.int rw)] [])) target := by
  obtain ⟨T1, X1, e1, st1⟩ := getF X0 hx hZ hown (host := "") (Or.inl (hw _ (List.mem_of_getElem? (i := 14) rfl))) Via.refl e0 F_listed_o0 (g := (mkF m 17 #[.val (.ref o0), .val (.ref t1), .val (.ref t2), .val (.int fr), .val (.int tt), .val (.double fa), .second, .val (.int ix), .val (.int rw)] [(.ref o0)])) rfl rfl (hb hby d3_17)
  obtain ⟨cq2, Arq2, -, Sq2, -, Hq2, -⟩ := id V_l0
  obtain ⟨T3, X3, e3, st3⟩ := getF X1 hx hZ hown (host := "") (Or.inl (hw _ (List.mem_of_getElem? (i := 14) rfl))) Via.refl e1 F_listed_o0 (g := (mkF m 27 #[.val (.ref o0), .val (.ref t1), .val (.ref t2), .val (.int fr), .val (.int tt), .val (.double fa), .second, .val (.int ix), .val (.int rw)] [(.ref o0)])) rfl rfl (hb hby d3_27)
  obtain ⟨cq4, Arq4, qq4, Sq4, Nq4, Hq4, Gq4⟩ := id V_l0
  obtain ⟨T5, h5, X5, e5, W5, st5⟩ := stZ X3 hx hZ e3 Arq4 (j := rw) (inb_of Sq4 hix) (g := (mkF m 33 #[.val (.ref o0), .val (.ref t1), .val (.ref t2), .val (.int fr), .val (.int tt), .val (.double fa), .second, .val (.int ix), .val (.int rw)] [(.int (1 : Int32)), (.int rw), (.ref l0)])) rfl rfl (hb hby d3_33)
  have f6 := F_values_o0.other W5 (Or.inl ne_o0_l0)
  have f7 := F_listed_o0.other W5 (Or.inl ne_o0_l0)
  have f8 := F_rows_o0.other W5 (Or.inl ne_o0_l0)
  have f9 := F_count_o0.other W5 (Or.inl ne_o0_l0)
  have f10 := E_o0.wr W5
  have f11 := V_v0.other W5 ne_v0_l0
  have f12 := V_w0.other W5 (Ne.symm ne_l0_w0)
  have f13 := V_t2.other W5 (Ne.symm ne_l0_t2)
  have K5 : Keep h0 h5 [o0, v0, l0, w0] := (Keep.refl h0 [o0, v0, l0, w0]).wr W5 (Or.inl (List.mem_of_getElem? (i := 2) rfl))
  have Zs5 := Nat.le_trans Z0 (Keep.of_wr W5).1
  have N5 := Fr.snoc X5 N0 g_l0
  have f14 : Arv Z h5 l0 kl .boolean (4 : Int32) (A.2.2.1.set rw.toNatClampNeg (.int (1 : Int32))) (.int (0 : Int32)) := Arv.set Arq4 qq4 Sq4 Nq4 Hq4 Gq4 (by decide) W5 rw.toNatClampNeg rfl hll
  obtain ⟨T15, X15, e15, st15⟩ := getF X5 hx hZ hown (host := "") (Or.inl (hw _ (List.mem_of_getElem? (i := 16) rfl))) Via.refl e5 f8 (g := (mkF m 35 #[.val (.ref o0), .val (.ref t1), .val (.ref t2), .val (.int fr), .val (.int tt), .val (.double fa), .second, .val (.int ix), .val (.int rw)] [(.ref o0)])) rfl rfl (hb hby d3_35)
  obtain ⟨T16, X16, e16, st16⟩ := getF X15 hx hZ hown (host := "") (Or.inl (hw _ (List.mem_of_getElem? (i := 38) rfl))) Via.refl e15 f9 (g := (mkF m 40 #[.val (.ref o0), .val (.ref t1), .val (.ref t2), .val (.int fr), .val (.int tt), .val (.double fa), .second, .val (.int ix), .val (.int rw)] [(.ref o0), (.ref o0), (.ref w0)])) rfl rfl (hb hby d3_40)
  obtain ⟨T17, h17, X17, e17, W17, st17⟩ := putF X16 hx hZ hown (host := "") (Or.inl (hw _ (List.mem_of_getElem? (i := 38) rfl))) Via.refl e16 f9 f10 (Or.inl (hw _ (List.mem_of_getElem? (i := 39) rfl))) (hw _ (List.mem_of_getElem? (i := 4) rfl)) (ty := .int) (by decide) rfl rfl (g := (mkF m 46 #[.val (.ref o0), .val (.ref t1), .val (.ref t2), .val (.int fr), .val (.int tt), .val (.double fa), .second, .val (.int ix), .val (.int rw)] [(.int (A.1 + (1 : Int32))), (.ref o0), (.int A.1), (.ref w0)])) rfl rfl (hb hby d3_46)
  have f18 := f6.other W17 (Or.inr (so_SparseColumn_values_count hw))
  have f19 := f7.other W17 (Or.inr (so_SparseColumn_listed_count hw))
  have f20 := f8.other W17 (Or.inr (so_SparseColumn_rows_count hw))
  have f21 := f10.wr W17
  have f22 := f11.other W17 (Ne.symm ne_o0_v0)
  have f23 := f14.other W17 (Ne.symm ne_o0_l0)
  have f24 := f12.other W17 (Ne.symm ne_o0_w0)
  have f25 := f13.other W17 (Ne.symm ne_o0_t2)
  have K17 : Keep h0 h17 [o0, v0, l0, w0] := K5.wr W17 (Or.inl (List.mem_of_getElem? (i := 0) rfl))
  have Zs17 := Nat.le_trans Zs5 (Keep.of_wr W17).1
  have N17 := Fr.snoc X17 N5 g_o0
  have f26 : Fld Z h17 o0 "com/example/leeway/leeway/lp/SparseColumn" "count" "I" (.int (A.1 + (1 : Int32))) := f9.same W17
  obtain ⟨cq27, Arq27, qq27, Sq27, Nq27, Hq27, Gq27⟩ := id f24
  obtain ⟨T28, h28, X28, e28, W28, st28⟩ := stI X17 hx hZ e17 Arq27 (j := A.1) (inb_of Sq27 hcx) (g := (mkF m 51 #[.val (.ref o0), .val (.ref t1), .val (.ref t2), .val (.int fr), .val (.int tt), .val (.double fa), .second, .val (.int ix), .val (.int rw)] [(.int rw), (.int A.1), (.ref w0)])) rfl rfl (hb hby d3_51)
  have f29 := f18.other W28 (Or.inl ne_o0_w0)
  have f30 := f19.other W28 (Or.inl ne_o0_w0)
  have f31 := f20.other W28 (Or.inl ne_o0_w0)
  have f32 := f26.other W28 (Or.inl ne_o0_w0)
  have f33 := f21.wr W28
  have f34 := f22.other W28 ne_v0_w0
  have f35 := f23.other W28 ne_l0_w0
  have f36 := f25.other W28 (Ne.symm ne_w0_t2)
  have K28 : Keep h0 h28 [o0, v0, l0, w0] := K17.wr W28 (Or.inl (List.mem_of_getElem? (i := 3) rfl))
  have Zs28 := Nat.le_trans Zs17 (Keep.of_wr W28).1
  have N28 := Fr.snoc X28 N17 g_w0
  have f37 : Arv Z h28 w0 kw .int (4 : Int32) (A.2.1.set A.1.toNatClampNeg (.int rw)) (.int (0 : Int32)) := Arv.set Arq27 qq27 Sq27 Nq27 Hq27 Gq27 rfl W28 A.1.toNatClampNeg rfl hrn
  obtain ⟨T38, X38, e38, st38⟩ := getF X28 hx hZ hown (host := "") (Or.inl (hw _ (List.mem_of_getElem? (i := 12) rfl))) Via.refl e28 f29 (g := (mkF m 53 #[.val (.ref o0), .val (.ref t1), .val (.ref t2), .val (.int fr), .val (.int tt), .val (.double fa), .second, .val (.int ix), .val (.int rw)] [(.ref o0)])) rfl rfl (hb hby d3_53)
  obtain ⟨cq39, Arq39, -, Sq39, -, Hq39, -⟩ := id f34
  obtain ⟨cq40, Arq40, -, Sq40, -, Hq40, -⟩ := id f36
  obtain ⟨cq41, Arq41, qq41, Sq41, Nq41, Hq41, Gq41⟩ := id f34
  obtain ⟨T42, h42, X42, e42, W42, st42⟩ := stD X38 hx hZ e38 Arq41 (j := rw) (inb_of Sq41 hix) (g := (mkF m 68 #[.val (.ref o0), .val (.ref t1), .val (.ref t2), .val (.int fr), .val (.int tt), .val (.double fa), .second, .val (.int ix), .val (.int rw)] [(.double dy), (.int rw), (.ref v0)])) rfl rfl (hb hby d3_68)
  have f43 := f29.other W42 (Or.inl ne_o0_v0)
  have f44 := f30.other W42 (Or.inl ne_o0_v0)
  have f45 := f31.other W42 (Or.inl ne_o0_v0)
  have f46 := f32.other W42 (Or.inl ne_o0_v0)
  have f47 := f33.wr W42
  have f48 := f35.other W42 (Ne.symm ne_v0_l0)
  have f49 := f37.other W42 (Ne.symm ne_v0_w0)
  have f50 := f36.other W42 (Ne.symm ne_v0_t2)
  have K42 : Keep h0 h42 [o0, v0, l0, w0] := K28.wr W42 (Or.inl (List.mem_of_getElem? (i := 1) rfl))
  have Zs42 := Nat.le_trans Zs28 (Keep.of_wr W42).1
  have N42 := Fr.snoc X42 N28 g_v0
  have f51 : Arv Z h42 v0 kv .double (4 : Int32) (A.2.2.2.set rw.toNatClampNeg (.double dy)) (.double (0 : UInt64)) := Arv.set Arq41 qq41 Sq41 Nq41 Hq41 Gq41 rfl W42 rw.toNatClampNeg rfl hvl
  have f52 := own_arvL (vs1 := B.2.2.2) (hvs : ((A.2.2.2.set rw.toNatClampNeg (.double dy)) : List Value) = B.2.2.2) f51
  have f53 := own_arvL (vs1 := B.2.2.1) (hls : ((A.2.2.1.set rw.toNatClampNeg (.int (1 : Int32))) : List Value) = B.2.2.1) f48
  have f54 := own_arvL (vs1 := B.2.1) (hrs : ((A.2.1.set A.1.toNatClampNeg (.int rw)) : List Value) = B.2.1) f49
  have f55 := own_fldV (v1 := (.int B.1)) (congrArg Value.int hcn) f46
  refine ⟨T42, _, X42, N42, ?_, fun target kt => ?_⟩
  · show Q_trnN Z o0 v0 l0 w0 kv kl kw t1 t2 kt us A B fr tt fa ix rw u dx dy h0 T42.heap
    rw [e42]
    exact ⟨K42, f47, f43, f44, f45, f55, f52, f53, f54⟩
  · show Steps p.tables e below (T0.setTop (mkF m 16 #[.val (.ref o0), .val (.ref t1), .val (.ref t2), .val (.int fr), .val (.int tt), .val (.double fa), .second, .val (.int ix), .val (.int rw)] [])) _
    refine XS.aloadN X0.here hx rfl (hb hby d3_16) rfl rfl ?_
    refine st1 _ ?_
    show Steps p.tables e below (T1.setTop (mkF m 20 #[.val (.ref o0), .val (.ref t1), .val (.ref t2), .val (.int fr), .val (.int tt), .val (.double fa), .second, .val (.int ix), .val (.int rw)] [(.ref l0)])) _
    refine XS.iload X1.here hx rfl (hb hby d3_20) rfl ?_
    refine X1.baloadBooleans hx (j := rw) (v := (.int (0 : Int32))) (by rw [e1]; exact Arq2.1) (State.isArrayOf_alike hZ.alike Arq2.2.1) Arq2.2.2 (inb_of Sq2 hix) (Has.at Hq2 (inb_of Sq2 hix) hrl) (g := (mkF m 22 #[.val (.ref o0), .val (.ref t1), .val (.ref t2), .val (.int fr), .val (.int tt), .val (.double fa), .second, .val (.int ix), .val (.int rw)] [(.int rw), (.ref l0)])) rfl rfl (hb hby d3_22) _ ?_
    show Steps p.tables e below (T1.setTop (mkF m 23 #[.val (.ref o0), .val (.ref t1), .val (.ref t2), .val (.int fr), .val (.int tt), .val (.double fa), .second, .val (.int ix), .val (.int rw)] [(.int (0 : Int32))])) _
    refine XS.ifNo X1.here hx rfl (hb hby d3_23) rfl ((if0 _ _).trans (teq (by decide : (0 : Int32) = (0 : Int32))).2) ?_
    show Steps p.tables e below (T1.setTop (mkF m 26 #[.val (.ref o0), .val (.ref t1), .val (.ref t2), .val (.int fr), .val (.int tt), .val (.double fa), .second, .val (.int ix), .val (.int rw)] [])) _
    refine XS.aloadN X1.here hx rfl (hb hby d3_26) rfl rfl ?_
    refine st3 _ ?_
    show Steps p.tables e below (T3.setTop (mkF m 30 #[.val (.ref o0), .val (.ref t1), .val (.ref t2), .val (.int fr), .val (.int tt), .val (.double fa), .second, .val (.int ix), .val (.int rw)] [(.ref l0)])) _
    refine XS.iload X3.here hx rfl (hb hby d3_30) rfl ?_
    refine XS.iconst X3.here hx rfl (hb hby d3_32) ?_
    refine st5 _ ?_
    show Steps p.tables e below (T5.setTop (mkF m 34 #[.val (.ref o0), .val (.ref t1), .val (.ref t2), .val (.int fr), .val (.int tt), .val (.double fa), .second, .val (.int ix), .val (.int rw)] [])) _
    refine XS.aloadN X5.here hx rfl (hb hby d3_34) rfl rfl ?_
    show Steps p.tables e below (T5.setTop (mkF m 35 #[.val (.ref o0), .val (.ref t1), .val (.ref t2), .val (.int fr), .val (.int tt), .val (.double fa), .second, .val (.int ix), .val (.int rw)] [(.ref o0)])) _
    refine st15 _ ?_
    show Steps p.tables e below (T15.setTop (mkF m 38 #[.val (.ref o0), .val (.ref t1), .val (.ref t2), .val (.int fr), .val (.int tt), .val (.double fa), .second, .val (.int ix), .val (.int rw)] [(.ref w0)])) _
    refine XS.aloadN X15.here hx rfl (hb hby d3_38) rfl rfl ?_
    refine XS.dup X15.here hx rfl (hb hby d3_39) rfl rfl ?_
    refine st16 _ ?_
    show Steps p.tables e below (T16.setTop (mkF m 43 #[.val (.ref o0), .val (.ref t1), .val (.ref t2), .val (.int fr), .val (.int tt), .val (.double fa), .second, .val (.int ix), .val (.int rw)] [(.int A.1), (.ref o0), (.ref w0)])) _
    refine XS.dupX1 X16.here hx rfl (hb hby d3_43) rfl rfl rfl ?_
    refine XS.iconst X16.here hx rfl (hb hby d3_44) ?_
    show Steps p.tables e below (T16.setTop (mkF m 45 #[.val (.ref o0), .val (.ref t1), .val (.ref t2), .val (.int fr), .val (.int tt), .val (.double fa), .second, .val (.int ix), .val (.int rw)] [(.int (1 : Int32)), (.int A.1), (.ref o0), (.int A.1), (.ref w0)])) _
    refine XS.iadd X16.here hx rfl (hb hby d3_45) rfl ?_
    refine st17 _ ?_
    show Steps p.tables e below (T17.setTop (mkF m 49 #[.val (.ref o0), .val (.ref t1), .val (.ref t2), .val (.int fr), .val (.int tt), .val (.double fa), .second, .val (.int ix), .val (.int rw)] [(.int A.1), (.ref w0)])) _
    refine XS.iload X17.here hx rfl (hb hby d3_49) rfl ?_
    refine st28 _ ?_
    show Steps p.tables e below (T28.setTop (mkF m 52 #[.val (.ref o0), .val (.ref t1), .val (.ref t2), .val (.int fr), .val (.int tt), .val (.double fa), .second, .val (.int ix), .val (.int rw)] [])) _
    refine XS.aloadN X28.here hx rfl (hb hby d3_52) rfl rfl ?_
    refine st38 _ ?_
    show Steps p.tables e below (T38.setTop (mkF m 56 #[.val (.ref o0), .val (.ref t1), .val (.ref t2), .val (.int fr), .val (.int tt), .val (.double fa), .second, .val (.int ix), .val (.int rw)] [(.ref v0)])) _
    refine XS.iload X38.here hx rfl (hb hby d3_56) rfl ?_
    jvm_step X38.here [X38.here.top, hx, (hb hby d3_58), Value.category]
    show Steps p.tables e below (T38.setTop (mkF m 59 #[.val (.ref o0), .val (.ref t1), .val (.ref t2), .val (.int fr), .val (.int tt), .val (.double fa), .second, .val (.int ix), .val (.int rw)] [(.int rw), (.ref v0), (.int rw), (.ref v0)])) _
    refine X38.daload hx (j := rw) (v := (.double dx)) (by rw [e38]; exact Arq39.1) (State.isArrayOf_alike hZ.alike Arq39.2.1) Arq39.2.2 (inb_of Sq39 hix) (Has.at Hq39 (inb_of Sq39 hix) hrv) (g := (mkF m 59 #[.val (.ref o0), .val (.ref t1), .val (.ref t2), .val (.int fr), .val (.int tt), .val (.double fa), .second, .val (.int ix), .val (.int rw)] [(.int rw), (.ref v0), (.int rw), (.ref v0)])) rfl rfl (hb hby d3_59) _ ?_
    show Steps p.tables e below (T38.setTop (mkF m 60 #[.val (.ref o0), .val (.ref t1), .val (.ref t2), .val (.int fr), .val (.int tt), .val (.double fa), .second, .val (.int ix), .val (.int rw)] [(.double dx), (.int rw), (.ref v0)])) _
    refine XS.aloadN X38.here hx rfl (hb hby d3_60) rfl rfl ?_
    refine XS.iload X38.here hx rfl (hb hby d3_61) rfl ?_
    refine X38.daload hx (j := ix) (v := (.double u)) (by rw [e38]; exact Arq40.1) (State.isArrayOf_alike hZ.alike Arq40.2.1) Arq40.2.2 (inb_of Sq40 hiu) (Has.at Hq40 (inb_of Sq40 hiu) hru) (g := (mkF m 63 #[.val (.ref o0), .val (.ref t1), .val (.ref t2), .val (.int fr), .val (.int tt), .val (.double fa), .second, .val (.int ix), .val (.int rw)] [(.int ix), (.ref t2), (.double dx), (.int rw), (.ref v0)])) rfl rfl (hb hby d3_63) _ ?_
    show Steps p.tables e below (T38.setTop (mkF m 64 #[.val (.ref o0), .val (.ref t1), .val (.ref t2), .val (.int fr), .val (.int tt), .val (.double fa), .second, .val (.int ix), .val (.int rw)] [(.double u), (.double dx), (.int rw), (.ref v0)])) _
    refine XS.dload X38.here hx rfl (hb hby d3_64) rfl ?_
    refine XS.dmulS X38.here hx rfl (hb hby d3_66) rfl nn66 (v := (FP.dmul u fa)) rfl ?_
    refine XS.dsubS X38.here hx rfl (hb hby d3_67) rfl nn67 (v := dy) hq67 ?_
    refine st42 _ ?_
    show Steps p.tables e below (T42.setTop (mkF m 69 #[.val (.ref o0), .val (.ref t1), .val (.ref t2), .val (.int fr), .val (.int tt), .val (.double fa), .second, .val (.int ix), .val (.int rw)] [])) _
    refine XS.iinc X42.here hx rfl (hb hby d3_69) rfl (l' := #[.val (.ref o0), .val (.ref t1), .val (.ref t2), .val (.int fr), .val (.int tt), .val (.double fa), .second, .val (.int (ix + (1 : Int32))), .val (.int rw)]) rfl ?_
    refine XS.goto X42.here hx rfl (pc0 := 72) (pc' := 3) rfl (hb hby d3_72) (by decide) (by decide) ?_
    exact kt
def Q_trn (Z : State) (o0 : Addr) (v0 : Addr) (l0 : Addr) (w0 : Addr) (kv : ClassId) (kl : ClassId) (kw : ClassId) (t1 : Addr) (t2 : Addr) (kt : ClassId) (us : List Value) (A : Jvm.OwnSC.OwnSt) (B : Jvm.OwnSC.OwnSt) (fr : Int32) (tt : Int32) (fa : UInt64) (ix : Int32) (rw : Int32) (h0 : Heap) (h : Heap) : Prop := Keep h0 h [o0, v0, l0, w0] ∧ Exa Z h o0 "com/example/leeway/leeway/lp/SparseColumn" ∧ Fld Z h o0 "com/example/leeway/leeway/lp/SparseColumn" "values" "[D" (.ref v0) ∧ Fld Z h o0 "com/example/leeway/leeway/lp/SparseColumn" "listed" "[Z" (.ref l0) ∧ Fld Z h o0 "com/example/leeway/leeway/lp/SparseColumn" "rows" "[I" (.ref w0) ∧ Fld Z h o0 "com/example/leeway/leeway/lp/SparseColumn" "count" "I" (.int B.1) ∧ Arv Z h v0 kv .double (4 : Int32) B.2.2.2 (.double (0 : UInt64)) ∧ Arv Z h l0 kl .boolean (4 : Int32) B.2.2.1 (.int (0 : Int32)) ∧ Arv Z h w0 kw .int (4 : Int32) B.2.1 (.int (0 : Int32))
set_option maxRecDepth 65536 in
set_option maxHeartbeats 40000000 in
theorem trn (l : Launch) (Z : State) (a0 : Array Value) (hw : ∀ d ∈ tables_1, d.before a0 Z = true) (o0 : Addr) (v0 : Addr) (l0 : Addr) (w0 : Addr) (kv : ClassId) (kl : ClassId) (kw : ClassId) (t1 : Addr) (t2 : Addr) (kt : ClassId) (us : List Value) (A : Jvm.OwnSC.OwnSt) (B : Jvm.OwnSC.OwnSt) (fr : Int32) (tt : Int32) (fa : UInt64) (ix : Int32) (rw : Int32) (h0 : Heap) (n0 : Nat) (Z0 : n0 ≤ h0.size) (F_values_o0 : Fld Z h0 o0 "com/example/leeway/leeway/lp/SparseColumn" "values" "[D" (.ref v0)) (F_listed_o0 : Fld Z h0 o0 "com/example/leeway/leeway/lp/SparseColumn" "listed" "[Z" (.ref l0)) (F_rows_o0 : Fld Z h0 o0 "com/example/leeway/leeway/lp/SparseColumn" "rows" "[I" (.ref w0)) (F_count_o0 : Fld Z h0 o0 "com/example/leeway/leeway/lp/SparseColumn" "count" "I" (.int A.1)) (E_o0 : Exa Z h0 o0 "com/example/leeway/leeway/lp/SparseColumn") (V_v0 : Arv Z h0 v0 kv .double (4 : Int32) A.2.2.2 (.double (0 : UInt64))) (V_l0 : Arv Z h0 l0 kl .boolean (4 : Int32) A.2.2.1 (.int (0 : Int32))) (V_w0 : Arv Z h0 w0 kw .int (4 : Int32) A.2.1 (.int (0 : Int32))) (g_o0 : n0 ≤ o0) (g_v0 : n0 ≤ v0) (g_l0 : n0 ≤ l0) (g_w0 : n0 ≤ w0) (ne_o0_v0 : o0 ≠ v0) (ne_o0_l0 : o0 ≠ l0) (ne_o0_w0 : o0 ≠ w0) (ne_v0_l0 : v0 ≠ l0) (ne_v0_w0 : v0 ≠ w0) (ne_l0_w0 : l0 ≠ w0) (V_t2 : Arv Z h0 t2 kt .double (3 : Int32) us (.double (0 : UInt64))) (ne_o0_t2 : o0 ≠ t2) (ne_v0_t2 : v0 ≠ t2) (ne_l0_t2 : l0 ≠ t2) (ne_w0_t2 : w0 ≠ t2) (hone : Jvm.OwnSC.OneR A B ix rw us fa)
    {p : Program} {e : Env} {R : Room} {s : State} {m : MethodId} {args : Array Value} {below : List Frame} {meth : Method} {c : Code} {T0 : State} {locs0 : List Loc} {cells0 slots0 : Nat}
    (hx : p.tables.exec = Jvm.exec) (hby : c.code = prog_87_method_7_code) (hml : c.maxLocals = 9) (hown : s.vm.findClass "com/example/leeway/leeway/lp/SparseColumn" = some m.cls) (hZ : Z.Warmed39 s.vm) (X0 : Stand p l e R s m args below meth c T0 locs0 cells0 slots0) (e0 : T0.heap = h0) (N0 : Fr n0 locs0) :
    ∃ T' L, Stand p l e R s m args below meth c T' L cells0 slots0 ∧ Fr n0 L ∧ Q_trn Z o0 v0 l0 w0 kv kl kw t1 t2 kt us A B fr tt fa ix rw h0 T'.heap ∧ ∀ target, Steps p.tables e below (T'.setTop (mkF m 3 #[.val (.ref o0), .val (.ref t1), .val (.ref t2), .val (.int fr), .val (.int tt), .val (.double fa), .second, .val (.int (ix + (1 : Int32))), .val (.int rw)] [])) target → Steps p.tables e below (T0.setTop (mkF m 16 #[.val (.ref o0), .val (.ref t1), .val (.ref t2), .val (.int fr), .val (.int tt), .val (.double fa), .second, .val (.int ix), .val (.int rw)] [])) target := by
  obtain ⟨u, dx, hi, hu, n1, n2, q1, q2, q3, q4, ⟨q5, q6, q7, q8⟩ | ⟨q5, q6, q7, q8, q9, q10, q11⟩⟩ := hone
  · exact trnL l Z a0 hw o0 v0 l0 w0 kv kl kw t1 t2 kt us A B fr tt fa ix rw _ _ _ h0 n0 Z0 (F_values_o0 := F_values_o0) (F_listed_o0 := F_listed_o0) (F_rows_o0 := F_rows_o0) (F_count_o0 := F_count_o0) (E_o0 := E_o0) (V_v0 := V_v0) (V_l0 := V_l0) (V_w0 := V_w0) (g_o0 := g_o0) (g_v0 := g_v0) (g_l0 := g_l0) (g_w0 := g_w0) (ne_o0_v0 := ne_o0_v0) (ne_o0_l0 := ne_o0_l0) (ne_o0_w0 := ne_o0_w0) (ne_v0_l0 := ne_v0_l0) (ne_v0_w0 := ne_v0_w0) (ne_l0_w0 := ne_l0_w0) (V_t2 := V_t2) (ne_o0_t2 := ne_o0_t2) (ne_v0_t2 := ne_v0_t2) (ne_l0_t2 := ne_l0_t2) (ne_w0_t2 := ne_w0_t2) (nn66 := n1) (nn67 := n2) (hq67 := rfl) (hiu := hi) (hru := hu) (hix := q1) (hrv := q2) (hvl := q3) (hvs := q4) (hrl := q5) (hcn := q6) (hrs := q7) (hls := q8) (hx := hx) (hby := hby) (hml := hml) (hown := hown) (hZ := hZ) (X0 := X0) (e0 := e0) (N0 := N0)
  · exact trnN l Z a0 hw o0 v0 l0 w0 kv kl kw t1 t2 kt us A B fr tt fa ix rw _ _ _ h0 n0 Z0 (F_values_o0 := F_values_o0) (F_listed_o0 := F_listed_o0) (F_rows_o0 := F_rows_o0) (F_count_o0 := F_count_o0) (E_o0 := E_o0) (V_v0 := V_v0) (V_l0 := V_l0) (V_w0 := V_w0) (g_o0 := g_o0) (g_v0 := g_v0) (g_l0 := g_l0) (g_w0 := g_w0) (ne_o0_v0 := ne_o0_v0) (ne_o0_l0 := ne_o0_l0) (ne_o0_w0 := ne_o0_w0) (ne_v0_l0 := ne_v0_l0) (ne_v0_w0 := ne_v0_w0) (ne_l0_w0 := ne_l0_w0) (V_t2 := V_t2) (ne_o0_t2 := ne_o0_t2) (ne_v0_t2 := ne_v0_t2) (ne_l0_t2 := ne_l0_t2) (ne_w0_t2 := ne_w0_t2) (nn66 := n1) (nn67 := n2) (hq67 := rfl) (hiu := hi) (hru := hu) (hix := q1) (hrv := q2) (hvl := q3) (hvs := q4) (hrl := q5) (hll := q6) (hls := q7) (hcx := q8) (hrn := q9) (hrs := q10) (hcn := q11) (hx := hx) (hby := hby) (hml := hml) (hown := hown) (hZ := hZ) (X0 := X0) (e0 := e0) (N0 := N0)
theorem d3_0 : decode prog_87_method_7_code 0 = .ok (.iload_n 3, 1) := by decide +kernel
theorem d3_1 : decode prog_87_method_7_code 1 = .ok (.istore 7, 2) := by decide +kernel
theorem d3_3 : decode prog_87_method_7_code 3 = .ok (.iload 7, 2) := by decide +kernel
theorem d3_5 : decode prog_87_method_7_code 5 = .ok (.iload 4, 2) := by decide +kernel
theorem d3_7 : decode prog_87_method_7_code 7 = .ok (.if_icmp .ge 68, 3) := by decide +kernel
theorem d3_75 : decode prog_87_method_7_code 75 = .ok (.return_, 1) := by decide +kernel
theorem ef_3_RRRIID (m : MethodId) (x0 : Addr) (x1 : Addr) (x2 : Addr) (x3 : Int32) (x4 : Int32) (x5 : UInt64) : entryFrame m #[(.ref x0), (.ref x1), (.ref x2), (.int x3), (.int x4), (.double x5)] 9 = mkF m 0 #[.val (.ref x0), .val (.ref x1), .val (.ref x2), .val (.int x3), .val (.int x4), .val (.double x5), .second, .unset, .unset] [] := by first | (simp [entryFrame, mkF, argsToLocals, Value.category]; done) | rfl
def Q_sub0 (Z : State) (o0 : Addr) (v0 : Addr) (l0 : Addr) (w0 : Addr) (kv : ClassId) (kl : ClassId) (kw : ClassId) (t1 : Addr) (t2 : Addr) (ks : ClassId) (kt : ClassId) (ts : List Value) (us : List Value) (A : Jvm.OwnSC.OwnSt) (F : Jvm.OwnSC.OwnSt) (fr : Int32) (tt : Int32) (fa : UInt64) (h0 : Heap) (n0 : Nat) (v : Option Value) (h : Heap) (L : List Loc) : Prop := v = none ∧ Fr n0 L ∧ Keep h0 h [o0, v0, l0, w0] ∧ Exa Z h o0 "com/example/leeway/leeway/lp/SparseColumn" ∧ Fld Z h o0 "com/example/leeway/leeway/lp/SparseColumn" "values" "[D" (.ref v0) ∧ Fld Z h o0 "com/example/leeway/leeway/lp/SparseColumn" "listed" "[Z" (.ref l0) ∧ Fld Z h o0 "com/example/leeway/leeway/lp/SparseColumn" "rows" "[I" (.ref w0) ∧ Fld Z h o0 "com/example/leeway/leeway/lp/SparseColumn" "count" "I" (.int A.1) ∧ Arv Z h v0 kv .double (4 : Int32) A.2.2.2 (.double (0 : UInt64)) ∧ Arv Z h l0 kl .boolean (4 : Int32) A.2.2.1 (.int (0 : Int32)) ∧ Arv Z h w0 kw .int (4 : Int32) A.2.1 (.int (0 : Int32))
set_option maxRecDepth 65536 in
set_option maxHeartbeats 40000000 in
theorem sub0 (l : Launch) (Z : State) (a0 : Array Value) (hw : ∀ d ∈ tables_1, d.before a0 Z = true) (ws : List Jvm.Cond) (o0 : Addr) (v0 : Addr) (l0 : Addr) (w0 : Addr) (kv : ClassId) (kl : ClassId) (kw : ClassId) (t1 : Addr) (t2 : Addr) (ks : ClassId) (kt : ClassId) (ts : List Value) (us : List Value) (A : Jvm.OwnSC.OwnSt) (F : Jvm.OwnSC.OwnSt) (fr : Int32) (tt : Int32) (fa : UInt64) (h0 : Heap) (n0 : Nat) (Z0 : n0 ≤ h0.size) (F_values_o0 : Fld Z h0 o0 "com/example/leeway/leeway/lp/SparseColumn" "values" "[D" (.ref v0)) (F_listed_o0 : Fld Z h0 o0 "com/example/leeway/leeway/lp/SparseColumn" "listed" "[Z" (.ref l0)) (F_rows_o0 : Fld Z h0 o0 "com/example/leeway/leeway/lp/SparseColumn" "rows" "[I" (.ref w0)) (F_count_o0 : Fld Z h0 o0 "com/example/leeway/leeway/lp/SparseColumn" "count" "I" (.int A.1)) (E_o0 : Exa Z h0 o0 "com/example/leeway/leeway/lp/SparseColumn") (V_v0 : Arv Z h0 v0 kv .double (4 : Int32) A.2.2.2 (.double (0 : UInt64))) (V_l0 : Arv Z h0 l0 kl .boolean (4 : Int32) A.2.2.1 (.int (0 : Int32))) (V_w0 : Arv Z h0 w0 kw .int (4 : Int32) A.2.1 (.int (0 : Int32))) (g_o0 : n0 ≤ o0) (g_v0 : n0 ≤ v0) (g_l0 : n0 ≤ l0) (g_w0 : n0 ≤ w0) (ne_o0_v0 : o0 ≠ v0) (ne_o0_l0 : o0 ≠ l0) (ne_o0_w0 : o0 ≠ w0) (ne_v0_l0 : v0 ≠ l0) (ne_v0_w0 : v0 ≠ w0) (ne_l0_w0 : l0 ≠ w0) (V_t1 : Arv Z h0 t1 ks .int (3 : Int32) ts (.int (0 : Int32))) (V_t2 : Arv Z h0 t2 kt .double (3 : Int32) us (.double (0 : UInt64))) (ne_o0_t1 : o0 ≠ t1) (ne_o0_t2 : o0 ≠ t2) (ne_v0_t1 : v0 ≠ t1) (ne_v0_t2 : v0 ≠ t2) (ne_l0_t1 : l0 ≠ t1) (ne_l0_t2 : l0 ≠ t2) (ne_w0_t1 : w0 ≠ t1) (ne_w0_t2 : w0 ≠ t2) (hc7 : ¬ (fr < tt)) :
    MetFree l (⟨"com/example/leeway/leeway/lp/SparseColumn", "subtract", "([I[DIID)V"⟩ : MethodName) (head1 (Jvm.Cond.code (⟨"com/example/leeway/leeway/lp/SparseColumn", "subtract", "([I[DIID)V"⟩ : MethodName) prog_87_method_7_code 9 none :: ws) ({ frames := 0, cells := 0, slots := 0, locals := 0 } : Room)) (fun a U => a = #[(.ref o0), (.ref t1), (.ref t2), (.int fr), (.int tt), (.double fa)] ∧ Z.Warmed39 U.vm ∧ U.heap = h0) (fun _ _ _ _ _ => True) (fun _ U o U' => ∃ v L, o = .returned v ∧ Q_sub0 Z o0 v0 l0 w0 kv kl kw t1 t2 ks kt ts us A F fr tt fa h0 n0 v U'.heap L ∧ FrameEnd U o U' L ({ frames := 0, cells := 0, slots := 0, locals := 0 } : Room).cells ({ frames := 0, cells := 0, slots := 0, locals := 0 } : Room).slots) := by
  refine MetFree.of_bodySF (plainFor_of_name pn_com_example_leeway_leeway_lp_SparseColumn) hisR ?_
  intro p e s m args below meth c s₁ Bd hml0 hP hK
  obtain ⟨rfl, hZ, hh⟩ := hP
  have hx := Bd.exec
  have hby := Bd.bytes
  have hml : c.maxLocals = 9 := hml0
  have hown : s.vm.findClass "com/example/leeway/leeway/lp/SparseColumn" = some m.cls := findClass_of_methodNamed Bd.named
  have hnm := (name_of_methodNamed Bd.named Bd.method).1
  have X0 : Stand p l e ({ frames := 0, cells := 0, slots := 0, locals := 0 } : Room) s m #[(.ref o0), (.ref t1), (.ref t2), (.int fr), (.int tt), (.double fa)] below meth c s₁ [] 0 0 := Stand.of_body Bd
  have e0 : s₁.heap = h0 := by rw [← hh, Bd.state]; rfl
  have N0 := Fr.nil n0
  have pre0 : ∀ t, Steps p.tables e below (s₁.setTop (mkF m 0 #[.val (.ref o0), .val (.ref t1), .val (.ref t2), .val (.int fr), .val (.int tt), .val (.double fa), .second, .unset, .unset] [])) t → Steps p.tables e below (s₁.setTop (entryFrame m #[(.ref o0), (.ref t1), (.ref t2), (.int fr), (.int tt), (.double fa)] 9)) t := fun t k => castTop (ef_3_RRRIID m o0 t1 t2 fr tt fa) k
  have f1 := own_fldV (v1 := (.int A.1)) (rfl) F_count_o0
  obtain ⟨fs, hr, hrun, hended, hW, hsame⟩ := X0.leave (v := none) (fun _ => rfl)
  refine ⟨_, _, pre0 _ ?_, hrun, hended, _, _, rfl, ?_, ⟨_, rfl⟩, hW, hsame.mono (by decide) (by decide)⟩
  · show Steps p.tables e below (s₁.setTop (mkF m 0 #[.val (.ref o0), .val (.ref t1), .val (.ref t2), .val (.int fr), .val (.int tt), .val (.double fa), .second, .unset, .unset] [])) _
    refine XS.iloadN X0.here hx rfl (hb hby d3_0) rfl ?_
    refine XS.istore X0.here hx rfl (hb hby d3_1) rfl (l' := #[.val (.ref o0), .val (.ref t1), .val (.ref t2), .val (.int fr), .val (.int tt), .val (.double fa), .second, .val (.int fr), .unset]) rfl ?_
    refine XS.iload X0.here hx rfl (hb hby d3_3) rfl ?_
    refine XS.iload X0.here hx rfl (hb hby d3_5) rfl ?_
    refine XS.icmpYes X0.here hx rfl (pc0 := 7) (pc' := 75) rfl (hb hby d3_7) rfl (flt hc7).2.1 (by decide) (by decide) ?_
    show Steps p.tables e below (s₁.setTop (mkF m 75 #[.val (.ref o0), .val (.ref t1), .val (.ref t2), .val (.int fr), .val (.int tt), .val (.double fa), .second, .val (.int fr), .unset] [])) _
    exact X0.returnOut hx Bd.returns (hb hby d3_75) hr
  · show Q_sub0 Z o0 v0 l0 w0 kv kl kw t1 t2 ks kt ts us A F fr tt fa h0 n0 _ s₁.heap _
    rw [e0]
    exact ⟨rfl, N0, (Keep.refl h0 [o0, v0, l0, w0]), E_o0, F_values_o0, F_listed_o0, F_rows_o0, f1, V_v0, V_l0, V_w0⟩
theorem d3_10 : decode prog_87_method_7_code 10 = .ok (.aload_n 1, 1) := by decide +kernel
theorem d3_11 : decode prog_87_method_7_code 11 = .ok (.iload 7, 2) := by decide +kernel
theorem d3_13 : decode prog_87_method_7_code 13 = .ok (.iaload, 1) := by decide +kernel
theorem d3_14 : decode prog_87_method_7_code 14 = .ok (.istore 8, 2) := by decide +kernel
def Q_sub1 (Z : State) (o0 : Addr) (v0 : Addr) (l0 : Addr) (w0 : Addr) (kv : ClassId) (kl : ClassId) (kw : ClassId) (t1 : Addr) (t2 : Addr) (ks : ClassId) (kt : ClassId) (ts : List Value) (us : List Value) (A : Jvm.OwnSC.OwnSt) (F : Jvm.OwnSC.OwnSt) (fr : Int32) (tt : Int32) (fa : UInt64) (rw0 : Int32) (h0 : Heap) (n0 : Nat) (v : Option Value) (h : Heap) (L : List Loc) : Prop := v = none ∧ Fr n0 L ∧ Keep h0 h [o0, v0, l0, w0] ∧ Exa Z h o0 "com/example/leeway/leeway/lp/SparseColumn" ∧ Fld Z h o0 "com/example/leeway/leeway/lp/SparseColumn" "values" "[D" (.ref v0) ∧ Fld Z h o0 "com/example/leeway/leeway/lp/SparseColumn" "listed" "[Z" (.ref l0) ∧ Fld Z h o0 "com/example/leeway/leeway/lp/SparseColumn" "rows" "[I" (.ref w0) ∧ Fld Z h o0 "com/example/leeway/leeway/lp/SparseColumn" "count" "I" (.int F.1) ∧ Arv Z h v0 kv .double (4 : Int32) F.2.2.2 (.double (0 : UInt64)) ∧ Arv Z h l0 kl .boolean (4 : Int32) F.2.2.1 (.int (0 : Int32)) ∧ Arv Z h w0 kw .int (4 : Int32) F.2.1 (.int (0 : Int32))
set_option maxRecDepth 65536 in
set_option maxHeartbeats 40000000 in
theorem sub1 (l : Launch) (Z : State) (a0 : Array Value) (hw : ∀ d ∈ tables_1, d.before a0 Z = true) (ws : List Jvm.Cond) (o0 : Addr) (v0 : Addr) (l0 : Addr) (w0 : Addr) (kv : ClassId) (kl : ClassId) (kw : ClassId) (t1 : Addr) (t2 : Addr) (ks : ClassId) (kt : ClassId) (ts : List Value) (us : List Value) (A : Jvm.OwnSC.OwnSt) (F : Jvm.OwnSC.OwnSt) (fr : Int32) (tt : Int32) (fa : UInt64) (rw0 : Int32) (h0 : Heap) (n0 : Nat) (Z0 : n0 ≤ h0.size) (F_values_o0 : Fld Z h0 o0 "com/example/leeway/leeway/lp/SparseColumn" "values" "[D" (.ref v0)) (F_listed_o0 : Fld Z h0 o0 "com/example/leeway/leeway/lp/SparseColumn" "listed" "[Z" (.ref l0)) (F_rows_o0 : Fld Z h0 o0 "com/example/leeway/leeway/lp/SparseColumn" "rows" "[I" (.ref w0)) (F_count_o0 : Fld Z h0 o0 "com/example/leeway/leeway/lp/SparseColumn" "count" "I" (.int A.1)) (E_o0 : Exa Z h0 o0 "com/example/leeway/leeway/lp/SparseColumn") (V_v0 : Arv Z h0 v0 kv .double (4 : Int32) A.2.2.2 (.double (0 : UInt64))) (V_l0 : Arv Z h0 l0 kl .boolean (4 : Int32) A.2.2.1 (.int (0 : Int32))) (V_w0 : Arv Z h0 w0 kw .int (4 : Int32) A.2.1 (.int (0 : Int32))) (g_o0 : n0 ≤ o0) (g_v0 : n0 ≤ v0) (g_l0 : n0 ≤ l0) (g_w0 : n0 ≤ w0) (ne_o0_v0 : o0 ≠ v0) (ne_o0_l0 : o0 ≠ l0) (ne_o0_w0 : o0 ≠ w0) (ne_v0_l0 : v0 ≠ l0) (ne_v0_w0 : v0 ≠ w0) (ne_l0_w0 : l0 ≠ w0) (V_t1 : Arv Z h0 t1 ks .int (3 : Int32) ts (.int (0 : Int32))) (V_t2 : Arv Z h0 t2 kt .double (3 : Int32) us (.double (0 : UInt64))) (ne_o0_t1 : o0 ≠ t1) (ne_o0_t2 : o0 ≠ t2) (ne_v0_t1 : v0 ≠ t1) (ne_v0_t2 : v0 ≠ t2) (ne_l0_t1 : l0 ≠ t1) (ne_l0_t2 : l0 ≠ t2) (ne_w0_t1 : w0 ≠ t1) (ne_w0_t2 : w0 ≠ t2) (hi0 : ¬ fr < 0 ∧ fr < (3 : Int32)) (ht0 : ts.getD fr.toNatClampNeg (.int (0 : Int32)) = .int rw0) (hc7 : fr < tt) (hone_16 : Jvm.OwnSC.OneR A F fr rw0 us fa) (hc7_1 : ¬ ((fr + (1 : Int32)) < tt)) :
    MetFree l (⟨"com/example/leeway/leeway/lp/SparseColumn", "subtract", "([I[DIID)V"⟩ : MethodName) (head1 (Jvm.Cond.code (⟨"com/example/leeway/leeway/lp/SparseColumn", "subtract", "([I[DIID)V"⟩ : MethodName) prog_87_method_7_code 9 none :: ws) ({ frames := 0, cells := 0, slots := 0, locals := 0 } : Room)) (fun a U => a = #[(.ref o0), (.ref t1), (.ref t2), (.int fr), (.int tt), (.double fa)] ∧ Z.Warmed39 U.vm ∧ U.heap = h0) (fun _ _ _ _ _ => True) (fun _ U o U' => ∃ v L, o = .returned v ∧ Q_sub1 Z o0 v0 l0 w0 kv kl kw t1 t2 ks kt ts us A F fr tt fa rw0 h0 n0 v U'.heap L ∧ FrameEnd U o U' L ({ frames := 0, cells := 0, slots := 0, locals := 0 } : Room).cells ({ frames := 0, cells := 0, slots := 0, locals := 0 } : Room).slots) := by
  refine MetFree.of_bodySF (plainFor_of_name pn_com_example_leeway_leeway_lp_SparseColumn) hisR ?_
  intro p e s m args below meth c s₁ Bd hml0 hP hK
  obtain ⟨rfl, hZ, hh⟩ := hP
  have hx := Bd.exec
  have hby := Bd.bytes
  have hml : c.maxLocals = 9 := hml0
  have hown : s.vm.findClass "com/example/leeway/leeway/lp/SparseColumn" = some m.cls := findClass_of_methodNamed Bd.named
  have hnm := (name_of_methodNamed Bd.named Bd.method).1
  have X0 : Stand p l e ({ frames := 0, cells := 0, slots := 0, locals := 0 } : Room) s m #[(.ref o0), (.ref t1), (.ref t2), (.int fr), (.int tt), (.double fa)] below meth c s₁ [] 0 0 := Stand.of_body Bd
  have e0 : s₁.heap = h0 := by rw [← hh, Bd.state]; rfl
  have N0 := Fr.nil n0
  have pre0 : ∀ t, Steps p.tables e below (s₁.setTop (mkF m 0 #[.val (.ref o0), .val (.ref t1), .val (.ref t2), .val (.int fr), .val (.int tt), .val (.double fa), .second, .unset, .unset] [])) t → Steps p.tables e below (s₁.setTop (entryFrame m #[(.ref o0), (.ref t1), (.ref t2), (.int fr), (.int tt), (.double fa)] 9)) t := fun t k => castTop (ef_3_RRRIID m o0 t1 t2 fr tt fa) k
  obtain ⟨cq1, Arq1, -, Sq1, -, Hq1, -⟩ := id V_t1
  obtain ⟨T2, L2, X2, N2, hQ2, st2⟩ := trn l Z a0 hw o0 v0 l0 w0 kv kl kw t1 t2 kt us A F fr tt fa fr rw0 h0 n0 Z0 F_values_o0 F_listed_o0 F_rows_o0 F_count_o0 E_o0 V_v0 V_l0 V_w0 g_o0 g_v0 g_l0 g_w0 ne_o0_v0 ne_o0_l0 ne_o0_w0 ne_v0_l0 ne_v0_w0 ne_l0_w0 V_t2 ne_o0_t2 ne_v0_t2 ne_l0_t2 ne_w0_t2 hone_16 hx hby hml hown hZ X0 e0 N0
  obtain ⟨K2q, f3, f4, f5, f6, f7, f8, f9, f10⟩ := hQ2
  have f11 := E_o0.keep K2q
  have f12 := V_t1.keep K2q (own_niS (Ne.symm ne_o0_t1) (own_niS (Ne.symm ne_v0_t1) (own_niS (Ne.symm ne_l0_t1) (own_niS (Ne.symm ne_w0_t1) own_ni0))))
  have f13 := V_t2.keep K2q (own_niS (Ne.symm ne_o0_t2) (own_niS (Ne.symm ne_v0_t2) (own_niS (Ne.symm ne_l0_t2) (own_niS (Ne.symm ne_w0_t2) own_ni0))))
  have K2 : Keep h0 T2.heap [o0, v0, l0, w0] := (Keep.refl h0 [o0, v0, l0, w0]).trans K2q (own_allS (Or.inl (List.mem_of_getElem? (i := 0) rfl)) (own_allS (Or.inl (List.mem_of_getElem? (i := 1) rfl)) (own_allS (Or.inl (List.mem_of_getElem? (i := 2) rfl)) (own_allS (Or.inl (List.mem_of_getElem? (i := 3) rfl)) own_all0))))
  have Zs2 := Nat.le_trans Z0 K2q.1
  obtain ⟨fs, hr, hrun, hended, hW, hsame⟩ := X2.leave (v := none) (fun _ => rfl)
  refine ⟨_, _, pre0 _ ?_, hrun, hended, _, _, rfl, ?_, ⟨_, rfl⟩, hW, hsame.mono (by decide) (by decide)⟩
  · show Steps p.tables e below (s₁.setTop (mkF m 0 #[.val (.ref o0), .val (.ref t1), .val (.ref t2), .val (.int fr), .val (.int tt), .val (.double fa), .second, .unset, .unset] [])) _
    refine XS.iloadN X0.here hx rfl (hb hby d3_0) rfl ?_
    refine XS.istore X0.here hx rfl (hb hby d3_1) rfl (l' := #[.val (.ref o0), .val (.ref t1), .val (.ref t2), .val (.int fr), .val (.int tt), .val (.double fa), .second, .val (.int fr), .unset]) rfl ?_
    refine XS.iload X0.here hx rfl (hb hby d3_3) rfl ?_
    refine XS.iload X0.here hx rfl (hb hby d3_5) rfl ?_
    refine XS.icmpNo X0.here hx rfl (hb hby d3_7) rfl (tlt hc7).2.1 ?_
    show Steps p.tables e below (s₁.setTop (mkF m 10 #[.val (.ref o0), .val (.ref t1), .val (.ref t2), .val (.int fr), .val (.int tt), .val (.double fa), .second, .val (.int fr), .unset] [])) _
    refine XS.aloadN X0.here hx rfl (hb hby d3_10) rfl rfl ?_
    refine XS.iload X0.here hx rfl (hb hby d3_11) rfl ?_
    refine X0.iaload hx (j := fr) (v := (.int rw0)) (by rw [e0]; exact Arq1.1) (State.isArrayOf_alike hZ.alike Arq1.2.1) Arq1.2.2 (inb_of Sq1 hi0) (Has.at Hq1 (inb_of Sq1 hi0) ht0) (g := (mkF m 13 #[.val (.ref o0), .val (.ref t1), .val (.ref t2), .val (.int fr), .val (.int tt), .val (.double fa), .second, .val (.int fr), .unset] [(.int fr), (.ref t1)])) rfl rfl (hb hby d3_13) _ ?_
    show Steps p.tables e below (s₁.setTop (mkF m 14 #[.val (.ref o0), .val (.ref t1), .val (.ref t2), .val (.int fr), .val (.int tt), .val (.double fa), .second, .val (.int fr), .unset] [(.int rw0)])) _
    refine XS.istore X0.here hx rfl (hb hby d3_14) rfl (l' := #[.val (.ref o0), .val (.ref t1), .val (.ref t2), .val (.int fr), .val (.int tt), .val (.double fa), .second, .val (.int fr), .val (.int rw0)]) rfl ?_
    show Steps p.tables e below (s₁.setTop (mkF m 16 #[.val (.ref o0), .val (.ref t1), .val (.ref t2), .val (.int fr), .val (.int tt), .val (.double fa), .second, .val (.int fr), .val (.int rw0)] [])) _
    refine st2 _ ?_
    show Steps p.tables e below (T2.setTop (mkF m 3 #[.val (.ref o0), .val (.ref t1), .val (.ref t2), .val (.int fr), .val (.int tt), .val (.double fa), .second, .val (.int (fr + (1 : Int32))), .val (.int rw0)] [])) _
    show Steps p.tables e below (T2.setTop (mkF m 3 #[.val (.ref o0), .val (.ref t1), .val (.ref t2), .val (.int fr), .val (.int tt), .val (.double fa), .second, .val (.int (fr + (1 : Int32))), .val (.int rw0)] [])) _
    refine XS.iload X2.here hx rfl (hb hby d3_3) rfl ?_
    refine XS.iload X2.here hx rfl (hb hby d3_5) rfl ?_
    refine XS.icmpYes X2.here hx rfl (pc0 := 7) (pc' := 75) rfl (hb hby d3_7) rfl (flt hc7_1).2.1 (by decide) (by decide) ?_
    exact X2.returnOut hx Bd.returns (hb hby d3_75) hr
  · show Q_sub1 Z o0 v0 l0 w0 kv kl kw t1 t2 ks kt ts us A F fr tt fa rw0 h0 n0 _ T2.heap _
    exact ⟨rfl, N2, K2, f3, f4, f5, f6, f7, f8, f9, f10⟩
def Q_sub2 (Z : State) (o0 : Addr) (v0 : Addr) (l0 : Addr) (w0 : Addr) (kv : ClassId) (kl : ClassId) (kw : ClassId) (t1 : Addr) (t2 : Addr) (ks : ClassId) (kt : ClassId) (ts : List Value) (us : List Value) (A : Jvm.OwnSC.OwnSt) (F : Jvm.OwnSC.OwnSt) (fr : Int32) (tt : Int32) (fa : UInt64) (B1 : Jvm.OwnSC.OwnSt) (rw0 : Int32) (rw1 : Int32) (h0 : Heap) (n0 : Nat) (v : Option Value) (h : Heap) (L : List Loc) : Prop := v = none ∧ Fr n0 L ∧ Keep h0 h [o0, v0, l0, w0] ∧ Exa Z h o0 "com/example/leeway/leeway/lp/SparseColumn" ∧ Fld Z h o0 "com/example/leeway/leeway/lp/SparseColumn" "values" "[D" (.ref v0) ∧ Fld Z h o0 "com/example/leeway/leeway/lp/SparseColumn" "listed" "[Z" (.ref l0) ∧ Fld Z h o0 "com/example/leeway/leeway/lp/SparseColumn" "rows" "[I" (.ref w0) ∧ Fld Z h o0 "com/example/leeway/leeway/lp/SparseColumn" "count" "I" (.int F.1) ∧ Arv Z h v0 kv .double (4 : Int32) F.2.2.2 (.double (0 : UInt64)) ∧ Arv Z h l0 kl .boolean (4 : Int32) F.2.2.1 (.int (0 : Int32)) ∧ Arv Z h w0 kw .int (4 : Int32) F.2.1 (.int (0 : Int32))
set_option maxRecDepth 65536 in
set_option maxHeartbeats 40000000 in
theorem sub2 (l : Launch) (Z : State) (a0 : Array Value) (hw : ∀ d ∈ tables_1, d.before a0 Z = true) (ws : List Jvm.Cond) (o0 : Addr) (v0 : Addr) (l0 : Addr) (w0 : Addr) (kv : ClassId) (kl : ClassId) (kw : ClassId) (t1 : Addr) (t2 : Addr) (ks : ClassId) (kt : ClassId) (ts : List Value) (us : List Value) (A : Jvm.OwnSC.OwnSt) (F : Jvm.OwnSC.OwnSt) (fr : Int32) (tt : Int32) (fa : UInt64) (B1 : Jvm.OwnSC.OwnSt) (rw0 : Int32) (rw1 : Int32) (h0 : Heap) (n0 : Nat) (Z0 : n0 ≤ h0.size) (F_values_o0 : Fld Z h0 o0 "com/example/leeway/leeway/lp/SparseColumn" "values" "[D" (.ref v0)) (F_listed_o0 : Fld Z h0 o0 "com/example/leeway/leeway/lp/SparseColumn" "listed" "[Z" (.ref l0)) (F_rows_o0 : Fld Z h0 o0 "com/example/leeway/leeway/lp/SparseColumn" "rows" "[I" (.ref w0)) (F_count_o0 : Fld Z h0 o0 "com/example/leeway/leeway/lp/SparseColumn" "count" "I" (.int A.1)) (E_o0 : Exa Z h0 o0 "com/example/leeway/leeway/lp/SparseColumn") (V_v0 : Arv Z h0 v0 kv .double (4 : Int32) A.2.2.2 (.double (0 : UInt64))) (V_l0 : Arv Z h0 l0 kl .boolean (4 : Int32) A.2.2.1 (.int (0 : Int32))) (V_w0 : Arv Z h0 w0 kw .int (4 : Int32) A.2.1 (.int (0 : Int32))) (g_o0 : n0 ≤ o0) (g_v0 : n0 ≤ v0) (g_l0 : n0 ≤ l0) (g_w0 : n0 ≤ w0) (ne_o0_v0 : o0 ≠ v0) (ne_o0_l0 : o0 ≠ l0) (ne_o0_w0 : o0 ≠ w0) (ne_v0_l0 : v0 ≠ l0) (ne_v0_w0 : v0 ≠ w0) (ne_l0_w0 : l0 ≠ w0) (V_t1 : Arv Z h0 t1 ks .int (3 : Int32) ts (.int (0 : Int32))) (V_t2 : Arv Z h0 t2 kt .double (3 : Int32) us (.double (0 : UInt64))) (ne_o0_t1 : o0 ≠ t1) (ne_o0_t2 : o0 ≠ t2) (ne_v0_t1 : v0 ≠ t1) (ne_v0_t2 : v0 ≠ t2) (ne_l0_t1 : l0 ≠ t1) (ne_l0_t2 : l0 ≠ t2) (ne_w0_t1 : w0 ≠ t1) (ne_w0_t2 : w0 ≠ t2) (hi0 : ¬ fr < 0 ∧ fr < (3 : Int32)) (ht0 : ts.getD fr.toNatClampNeg (.int (0 : Int32)) = .int rw0) (hi1 : ¬ (fr + (1 : Int32)) < 0 ∧ (fr + (1 : Int32)) < (3 : Int32)) (ht1 : ts.getD (fr + (1 : Int32)).toNatClampNeg (.int (0 : Int32)) = .int rw1) (hc7 : fr < tt) (hone_16 : Jvm.OwnSC.OneR A B1 fr rw0 us fa) (hc7_1 : (fr + (1 : Int32)) < tt) (hone_16_1 : Jvm.OwnSC.OneR B1 F (fr + (1 : Int32)) rw1 us fa) (hc7_2 : ¬ (((fr + (1 : Int32)) + (1 : Int32)) < tt)) :
    MetFree l (⟨"com/example/leeway/leeway/lp/SparseColumn", "subtract", "([I[DIID)V"⟩ : MethodName) (head1 (Jvm.Cond.code (⟨"com/example/leeway/leeway/lp/SparseColumn", "subtract", "([I[DIID)V"⟩ : MethodName) prog_87_method_7_code 9 none :: ws) ({ frames := 0, cells := 0, slots := 0, locals := 0 } : Room)) (fun a U => a = #[(.ref o0), (.ref t1), (.ref t2), (.int fr), (.int tt), (.double fa)] ∧ Z.Warmed39 U.vm ∧ U.heap = h0) (fun _ _ _ _ _ => True) (fun _ U o U' => ∃ v L, o = .returned v ∧ Q_sub2 Z o0 v0 l0 w0 kv kl kw t1 t2 ks kt ts us A F fr tt fa B1 rw0 rw1 h0 n0 v U'.heap L ∧ FrameEnd U o U' L ({ frames := 0, cells := 0, slots := 0, locals := 0 } : Room).cells ({ frames := 0, cells := 0, slots := 0, locals := 0 } : Room).slots) := by
  refine MetFree.of_bodySF (plainFor_of_name pn_com_example_leeway_leeway_lp_SparseColumn) hisR ?_
  intro p e s m args below meth c s₁ Bd hml0 hP hK
  obtain ⟨rfl, hZ, hh⟩ := hP
  have hx := Bd.exec
  have hby := Bd.bytes
  have hml : c.maxLocals = 9 := hml0
  have hown : s.vm.findClass "com/example/leeway/leeway/lp/SparseColumn" = some m.cls := findClass_of_methodNamed Bd.named
  have hnm := (name_of_methodNamed Bd.named Bd.method).1
  have X0 : Stand p l e ({ frames := 0, cells := 0, slots := 0, locals := 0 } : Room) s m #[(.ref o0), (.ref t1), (.ref t2), (.int fr), (.int tt), (.double fa)] below meth c s₁ [] 0 0 := Stand.of_body Bd
  have e0 : s₁.heap = h0 := by rw [← hh, Bd.state]; rfl
  have N0 := Fr.nil n0
  have pre0 : ∀ t, Steps p.tables e below (s₁.setTop (mkF m 0 #[.val (.ref o0), .val (.ref t1), .val (.ref t2), .val (.int fr), .val (.int tt), .val (.double fa), .second, .unset, .unset] [])) t → Steps p.tables e below (s₁.setTop (entryFrame m #[(.ref o0), (.ref t1), (.ref t2), (.int fr), (.int tt), (.double fa)] 9)) t := fun t k => castTop (ef_3_RRRIID m o0 t1 t2 fr tt fa) k
  obtain ⟨cq1, Arq1, -, Sq1, -, Hq1, -⟩ := id V_t1
  obtain ⟨T2, L2, X2, N2, hQ2, st2⟩ := trn l Z a0 hw o0 v0 l0 w0 kv kl kw t1 t2 kt us A B1 fr tt fa fr rw0 h0 n0 Z0 F_values_o0 F_listed_o0 F_rows_o0 F_count_o0 E_o0 V_v0 V_l0 V_w0 g_o0 g_v0 g_l0 g_w0 ne_o0_v0 ne_o0_l0 ne_o0_w0 ne_v0_l0 ne_v0_w0 ne_l0_w0 V_t2 ne_o0_t2 ne_v0_t2 ne_l0_t2 ne_w0_t2 hone_16 hx hby hml hown hZ X0 e0 N0
  obtain ⟨K2q, f3, f4, f5, f6, f7, f8, f9, f10⟩ := hQ2
  have f11 := E_o0.keep K2q
  have f12 := V_t1.keep K2q (own_niS (Ne.symm ne_o0_t1) (own_niS (Ne.symm ne_v0_t1) (own_niS (Ne.symm ne_l0_t1) (own_niS (Ne.symm ne_w0_t1) own_ni0))))
  have f13 := V_t2.keep K2q (own_niS (Ne.symm ne_o0_t2) (own_niS (Ne.symm ne_v0_t2) (own_niS (Ne.symm ne_l0_t2) (own_niS (Ne.symm ne_w0_t2) own_ni0))))
  have K2 : Keep h0 T2.heap [o0, v0, l0, w0] := (Keep.refl h0 [o0, v0, l0, w0]).trans K2q (own_allS (Or.inl (List.mem_of_getElem? (i := 0) rfl)) (own_allS (Or.inl (List.mem_of_getElem? (i := 1) rfl)) (own_allS (Or.inl (List.mem_of_getElem? (i := 2) rfl)) (own_allS (Or.inl (List.mem_of_getElem? (i := 3) rfl)) own_all0))))
  have Zs2 := Nat.le_trans Z0 K2q.1
  obtain ⟨cq14, Arq14, -, Sq14, -, Hq14, -⟩ := id f12
  obtain ⟨T15, L15, X15, N15, hQ15, st15⟩ := trn l Z a0 hw o0 v0 l0 w0 kv kl kw t1 t2 kt us B1 F fr tt fa (fr + (1 : Int32)) rw1 T2.heap n0 Zs2 f4 f5 f6 f7 f3 f8 f9 f10 g_o0 g_v0 g_l0 g_w0 ne_o0_v0 ne_o0_l0 ne_o0_w0 ne_v0_l0 ne_v0_w0 ne_l0_w0 f13 ne_o0_t2 ne_v0_t2 ne_l0_t2 ne_w0_t2 hone_16_1 hx hby hml hown hZ X2 rfl N2
  obtain ⟨K15q, f16, f17, f18, f19, f20, f21, f22, f23⟩ := hQ15
  have f24 := f3.keep K15q
  have f25 := f12.keep K15q (own_niS (Ne.symm ne_o0_t1) (own_niS (Ne.symm ne_v0_t1) (own_niS (Ne.symm ne_l0_t1) (own_niS (Ne.symm ne_w0_t1) own_ni0))))
  have f26 := f13.keep K15q (own_niS (Ne.symm ne_o0_t2) (own_niS (Ne.symm ne_v0_t2) (own_niS (Ne.symm ne_l0_t2) (own_niS (Ne.symm ne_w0_t2) own_ni0))))
  have K15 : Keep h0 T15.heap [o0, v0, l0, w0] := K2.trans K15q (own_allS (Or.inl (List.mem_of_getElem? (i := 0) rfl)) (own_allS (Or.inl (List.mem_of_getElem? (i := 1) rfl)) (own_allS (Or.inl (List.mem_of_getElem? (i := 2) rfl)) (own_allS (Or.inl (List.mem_of_getElem? (i := 3) rfl)) own_all0))))
  have Zs15 := Nat.le_trans Zs2 K15q.1
  obtain ⟨fs, hr, hrun, hended, hW, hsame⟩ := X15.leave (v := none) (fun _ => rfl)
  refine ⟨_, _, pre0 _ ?_, hrun, hended, _, _, rfl, ?_, ⟨_, rfl⟩, hW, hsame.mono (by decide) (by decide)⟩
  · show Steps p.tables e below (s₁.setTop (mkF m 0 #[.val (.ref o0), .val (.ref t1), .val (.ref t2), .val (.int fr), .val (.int tt), .val (.double fa), .second, .unset, .unset] [])) _
    refine XS.iloadN X0.here hx rfl (hb hby d3_0) rfl ?_
    refine XS.istore X0.here hx rfl (hb hby d3_1) rfl (l' := #[.val (.ref o0), .val (.ref t1), .val (.ref t2), .val (.int fr), .val (.int tt), .val (.double fa), .second, .val (.int fr), .unset]) rfl ?_
    refine XS.iload X0.here hx rfl (hb hby d3_3) rfl ?_
    refine XS.iload X0.here hx rfl (hb hby d3_5) rfl ?_
    refine XS.icmpNo X0.here hx rfl (hb hby d3_7) rfl (tlt hc7).2.1 ?_
    show Steps p.tables e below (s₁.setTop (mkF m 10 #[.val (.ref o0), .val (.ref t1), .val (.ref t2), .val (.int fr), .val (.int tt), .val (.double fa), .second, .val (.int fr), .unset] [])) _
    refine XS.aloadN X0.here hx rfl (hb hby d3_10) rfl rfl ?_
    refine XS.iload X0.here hx rfl (hb hby d3_11) rfl ?_
    refine X0.iaload hx (j := fr) (v := (.int rw0)) (by rw [e0]; exact Arq1.1) (State.isArrayOf_alike hZ.alike Arq1.2.1) Arq1.2.2 (inb_of Sq1 hi0) (Has.at Hq1 (inb_of Sq1 hi0) ht0) (g := (mkF m 13 #[.val (.ref o0), .val (.ref t1), .val (.ref t2), .val (.int fr), .val (.int tt), .val (.double fa), .second, .val (.int fr), .unset] [(.int fr), (.ref t1)])) rfl rfl (hb hby d3_13) _ ?_
    show Steps p.tables e below (s₁.setTop (mkF m 14 #[.val (.ref o0), .val (.ref t1), .val (.ref t2), .val (.int fr), .val (.int tt), .val (.double fa), .second, .val (.int fr), .unset] [(.int rw0)])) _
    refine XS.istore X0.here hx rfl (hb hby d3_14) rfl (l' := #[.val (.ref o0), .val (.ref t1), .val (.ref t2), .val (.int fr), .val (.int tt), .val (.double fa), .second, .val (.int fr), .val (.int rw0)]) rfl ?_
    show Steps p.tables e below (s₁.setTop (mkF m 16 #[.val (.ref o0), .val (.ref t1), .val (.ref t2), .val (.int fr), .val (.int tt), .val (.double fa), .second, .val (.int fr), .val (.int rw0)] [])) _
    refine st2 _ ?_
    show Steps p.tables e below (T2.setTop (mkF m 3 #[.val (.ref o0), .val (.ref t1), .val (.ref t2), .val (.int fr), .val (.int tt), .val (.double fa), .second, .val (.int (fr + (1 : Int32))), .val (.int rw0)] [])) _
    show Steps p.tables e below (T2.setTop (mkF m 3 #[.val (.ref o0), .val (.ref t1), .val (.ref t2), .val (.int fr), .val (.int tt), .val (.double fa), .second, .val (.int (fr + (1 : Int32))), .val (.int rw0)] [])) _
    refine XS.iload X2.here hx rfl (hb hby d3_3) rfl ?_
    refine XS.iload X2.here hx rfl (hb hby d3_5) rfl ?_
    refine XS.icmpNo X2.here hx rfl (hb hby d3_7) rfl (tlt hc7_1).2.1 ?_
    refine XS.aloadN X2.here hx rfl (hb hby d3_10) rfl rfl ?_
    refine XS.iload X2.here hx rfl (hb hby d3_11) rfl ?_
    refine X2.iaload hx (j := (fr + (1 : Int32))) (v := (.int rw1)) Arq14.1 (State.isArrayOf_alike hZ.alike Arq14.2.1) Arq14.2.2 (inb_of Sq14 hi1) (Has.at Hq14 (inb_of Sq14 hi1) ht1) (g := (mkF m 13 #[.val (.ref o0), .val (.ref t1), .val (.ref t2), .val (.int fr), .val (.int tt), .val (.double fa), .second, .val (.int (fr + (1 : Int32))), .val (.int rw0)] [(.int (fr + (1 : Int32))), (.ref t1)])) rfl rfl (hb hby d3_13) _ ?_
    show Steps p.tables e below (T2.setTop (mkF m 14 #[.val (.ref o0), .val (.ref t1), .val (.ref t2), .val (.int fr), .val (.int tt), .val (.double fa), .second, .val (.int (fr + (1 : Int32))), .val (.int rw0)] [(.int rw1)])) _
    refine XS.istore X2.here hx rfl (hb hby d3_14) rfl (l' := #[.val (.ref o0), .val (.ref t1), .val (.ref t2), .val (.int fr), .val (.int tt), .val (.double fa), .second, .val (.int (fr + (1 : Int32))), .val (.int rw1)]) rfl ?_
    show Steps p.tables e below (T2.setTop (mkF m 16 #[.val (.ref o0), .val (.ref t1), .val (.ref t2), .val (.int fr), .val (.int tt), .val (.double fa), .second, .val (.int (fr + (1 : Int32))), .val (.int rw1)] [])) _
    refine st15 _ ?_
    show Steps p.tables e below (T15.setTop (mkF m 3 #[.val (.ref o0), .val (.ref t1), .val (.ref t2), .val (.int fr), .val (.int tt), .val (.double fa), .second, .val (.int ((fr + (1 : Int32)) + (1 : Int32))), .val (.int rw1)] [])) _
    show Steps p.tables e below (T15.setTop (mkF m 3 #[.val (.ref o0), .val (.ref t1), .val (.ref t2), .val (.int fr), .val (.int tt), .val (.double fa), .second, .val (.int ((fr + (1 : Int32)) + (1 : Int32))), .val (.int rw1)] [])) _
    refine XS.iload X15.here hx rfl (hb hby d3_3) rfl ?_
    refine XS.iload X15.here hx rfl (hb hby d3_5) rfl ?_
    refine XS.icmpYes X15.here hx rfl (pc0 := 7) (pc' := 75) rfl (hb hby d3_7) rfl (flt hc7_2).2.1 (by decide) (by decide) ?_
    show Steps p.tables e below (T15.setTop (mkF m 75 #[.val (.ref o0), .val (.ref t1), .val (.ref t2), .val (.int fr), .val (.int tt), .val (.double fa), .second, .val (.int ((fr + (1 : Int32)) + (1 : Int32))), .val (.int rw1)] [])) _
    exact X15.returnOut hx Bd.returns (hb hby d3_75) hr
  · show Q_sub2 Z o0 v0 l0 w0 kv kl kw t1 t2 ks kt ts us A F fr tt fa B1 rw0 rw1 h0 n0 _ T15.heap _
    exact ⟨rfl, N15, K15, f16, f17, f18, f19, f20, f21, f22, f23⟩
def Q_sub3 (Z : State) (o0 : Addr) (v0 : Addr) (l0 : Addr) (w0 : Addr) (kv : ClassId) (kl : ClassId) (kw : ClassId) (t1 : Addr) (t2 : Addr) (ks : ClassId) (kt : ClassId) (ts : List Value) (us : List Value) (A : Jvm.OwnSC.OwnSt) (F : Jvm.OwnSC.OwnSt) (fr : Int32) (tt : Int32) (fa : UInt64) (B1 : Jvm.OwnSC.OwnSt) (B2 : Jvm.OwnSC.OwnSt) (rw0 : Int32) (rw1 : Int32) (rw2 : Int32) (h0 : Heap) (n0 : Nat) (v : Option Value) (h : Heap) (L : List Loc) : Prop := v = none ∧ Fr n0 L ∧ Keep h0 h [o0, v0, l0, w0] ∧ Exa Z h o0 "com/example/leeway/leeway/lp/SparseColumn" ∧ Fld Z h o0 "com/example/leeway/leeway/lp/SparseColumn" "values" "[D" (.ref v0) ∧ Fld Z h o0 "com/example/leeway/leeway/lp/SparseColumn" "listed" "[Z" (.ref l0) ∧ Fld Z h o0 "com/example/leeway/leeway/lp/SparseColumn" "rows" "[I" (.ref w0) ∧ Fld Z h o0 "com/example/leeway/leeway/lp/SparseColumn" "count" "I" (.int F.1) ∧ Arv Z h v0 kv .double (4 : Int32) F.2.2.2 (.double (0 : UInt64)) ∧ Arv Z h l0 kl .boolean (4 : Int32) F.2.2.1 (.int (0 : Int32)) ∧ Arv Z h w0 kw .int (4 : Int32) F.2.1 (.int (0 : Int32))
set_option maxRecDepth 65536 in
set_option maxHeartbeats 40000000 in
theorem sub3 (l : Launch) (Z : State) (a0 : Array Value) (hw : ∀ d ∈ tables_1, d.before a0 Z = true) (ws : List Jvm.Cond) (o0 : Addr) (v0 : Addr) (l0 : Addr) (w0 : Addr) (kv : ClassId) (kl : ClassId) (kw : ClassId) (t1 : Addr) (t2 : Addr) (ks : ClassId) (kt : ClassId) (ts : List Value) (us : List Value) (A : Jvm.OwnSC.OwnSt) (F : Jvm.OwnSC.OwnSt) (fr : Int32) (tt : Int32) (fa : UInt64) (B1 : Jvm.OwnSC.OwnSt) (B2 : Jvm.OwnSC.OwnSt) (rw0 : Int32) (rw1 : Int32) (rw2 : Int32) (h0 : Heap) (n0 : Nat) (Z0 : n0 ≤ h0.size) (F_values_o0 : Fld Z h0 o0 "com/example/leeway/leeway/lp/SparseColumn" "values" "[D" (.ref v0)) (F_listed_o0 : Fld Z h0 o0 "com/example/leeway/leeway/lp/SparseColumn" "listed" "[Z" (.ref l0)) (F_rows_o0 : Fld Z h0 o0 "com/example/leeway/leeway/lp/SparseColumn" "rows" "[I" (.ref w0)) (F_count_o0 : Fld Z h0 o0 "com/example/leeway/leeway/lp/SparseColumn" "count" "I" (.int A.1)) (E_o0 : Exa Z h0 o0 "com/example/leeway/leeway/lp/SparseColumn") (V_v0 : Arv Z h0 v0 kv .double (4 : Int32) A.2.2.2 (.double (0 : UInt64))) (V_l0 : Arv Z h0 l0 kl .boolean (4 : Int32) A.2.2.1 (.int (0 : Int32))) (V_w0 : Arv Z h0 w0 kw .int (4 : Int32) A.2.1 (.int (0 : Int32))) (g_o0 : n0 ≤ o0) (g_v0 : n0 ≤ v0) (g_l0 : n0 ≤ l0) (g_w0 : n0 ≤ w0) (ne_o0_v0 : o0 ≠ v0) (ne_o0_l0 : o0 ≠ l0) (ne_o0_w0 : o0 ≠ w0) (ne_v0_l0 : v0 ≠ l0) (ne_v0_w0 : v0 ≠ w0) (ne_l0_w0 : l0 ≠ w0) (V_t1 : Arv Z h0 t1 ks .int (3 : Int32) ts (.int (0 : Int32))) (V_t2 : Arv Z h0 t2 kt .double (3 : Int32) us (.double (0 : UInt64))) (ne_o0_t1 : o0 ≠ t1) (ne_o0_t2 : o0 ≠ t2) (ne_v0_t1 : v0 ≠ t1) (ne_v0_t2 : v0 ≠ t2) (ne_l0_t1 : l0 ≠ t1) (ne_l0_t2 : l0 ≠ t2) (ne_w0_t1 : w0 ≠ t1) (ne_w0_t2 : w0 ≠ t2) (hi0 : ¬ fr < 0 ∧ fr < (3 : Int32)) (ht0 : ts.getD fr.toNatClampNeg (.int (0 : Int32)) = .int rw0) (hi1 : ¬ (fr + (1 : Int32)) < 0 ∧ (fr + (1 : Int32)) < (3 : Int32)) (ht1 : ts.getD (fr + (1 : Int32)).toNatClampNeg (.int (0 : Int32)) = .int rw1) (hi2 : ¬ ((fr + (1 : Int32)) + (1 : Int32)) < 0 ∧ ((fr + (1 : Int32)) + (1 : Int32)) < (3 : Int32)) (ht2 : ts.getD ((fr + (1 : Int32)) + (1 : Int32)).toNatClampNeg (.int (0 : Int32)) = .int rw2) (hc7 : fr < tt) (hone_16 : Jvm.OwnSC.OneR A B1 fr rw0 us fa) (hc7_1 : (fr + (1 : Int32)) < tt) (hone_16_1 : Jvm.OwnSC.OneR B1 B2 (fr + (1 : Int32)) rw1 us fa) (hc7_2 : ((fr + (1 : Int32)) + (1 : Int32)) < tt) (hone_16_2 : Jvm.OwnSC.OneR B2 F ((fr + (1 : Int32)) + (1 : Int32)) rw2 us fa) (hc7_3 : ¬ ((((fr + (1 : Int32)) + (1 : Int32)) + (1 : Int32)) < tt)) :
    MetFree l (⟨"com/example/leeway/leeway/lp/SparseColumn", "subtract", "([I[DIID)V"⟩ : MethodName) (head1 (Jvm.Cond.code (⟨"com/example/leeway/leeway/lp/SparseColumn", "subtract", "([I[DIID)V"⟩ : MethodName) prog_87_method_7_code 9 none :: ws) ({ frames := 0, cells := 0, slots := 0, locals := 0 } : Room)) (fun a U => a = #[(.ref o0), (.ref t1), (.ref t2), (.int fr), (.int tt), (.double fa)] ∧ Z.Warmed39 U.vm ∧ U.heap = h0) (fun _ _ _ _ _ => True) (fun _ U o U' => ∃ v L, o = .returned v ∧ Q_sub3 Z o0 v0 l0 w0 kv kl kw t1 t2 ks kt ts us A F fr tt fa B1 B2 rw0 rw1 rw2 h0 n0 v U'.heap L ∧ FrameEnd U o U' L ({ frames := 0, cells := 0, slots := 0, locals := 0 } : Room).cells ({ frames := 0, cells := 0, slots := 0, locals := 0 } : Room).slots) := by
  refine MetFree.of_bodySF (plainFor_of_name pn_com_example_leeway_leeway_lp_SparseColumn) hisR ?_
  intro p e s m args below meth c s₁ Bd hml0 hP hK
  obtain ⟨rfl, hZ, hh⟩ := hP
  have hx := Bd.exec
  have hby := Bd.bytes
  have hml : c.maxLocals = 9 := hml0
  have hown : s.vm.findClass "com/example/leeway/leeway/lp/SparseColumn" = some m.cls := findClass_of_methodNamed Bd.named
  have hnm := (name_of_methodNamed Bd.named Bd.method).1
  have X0 : Stand p l e ({ frames := 0, cells := 0, slots := 0, locals := 0 } : Room) s m #[(.ref o0), (.ref t1), (.ref t2), (.int fr), (.int tt), (.double fa)] below meth c s₁ [] 0 0 := Stand.of_body Bd
  have e0 : s₁.heap = h0 := by rw [← hh, Bd.state]; rfl
  have N0 := Fr.nil n0
  have pre0 : ∀ t, Steps p.tables e below (s₁.setTop (mkF m 0 #[.val (.ref o0), .val (.ref t1), .val (.ref t2), .val (.int fr), .val (.int tt), .val (.double fa), .second, .unset, .unset] [])) t → Steps p.tables e below (s₁.setTop (entryFrame m #[(.ref o0), (.ref t1), (.ref t2), (.int fr), (.int tt), (.double fa)] 9)) t := fun t k => castTop (ef_3_RRRIID m o0 t1 t2 fr tt fa) k
  obtain ⟨cq1, Arq1, -, Sq1, -, Hq1, -⟩ := id V_t1
  obtain ⟨T2, L2, X2, N2, hQ2, st2⟩ := trn l Z a0 hw o0 v0 l0 w0 kv kl kw t1 t2 kt us A B1 fr tt fa fr rw0 h0 n0 Z0 F_values_o0 F_listed_o0 F_rows_o0 F_count_o0 E_o0 V_v0 V_l0 V_w0 g_o0 g_v0 g_l0 g_w0 ne_o0_v0 ne_o0_l0 ne_o0_w0 ne_v0_l0 ne_v0_w0 ne_l0_w0 V_t2 ne_o0_t2 ne_v0_t2 ne_l0_t2 ne_w0_t2 hone_16 hx hby hml hown hZ X0 e0 N0
  obtain ⟨K2q, f3, f4, f5, f6, f7, f8, f9, f10⟩ := hQ2
  have f11 := E_o0.keep K2q
  have f12 := V_t1.keep K2q (own_niS (Ne.symm ne_o0_t1) (own_niS (Ne.symm ne_v0_t1) (own_niS (Ne.symm ne_l0_t1) (own_niS (Ne.symm ne_w0_t1) own_ni0))))
  have f13 := V_t2.keep K2q (own_niS (Ne.symm ne_o0_t2) (own_niS (Ne.symm ne_v0_t2) (own_niS (Ne.symm ne_l0_t2) (own_niS (Ne.symm ne_w0_t2) own_ni0))))
  have K2 : Keep h0 T2.heap [o0, v0, l0, w0] := (Keep.refl h0 [o0, v0, l0, w0]).trans K2q (own_allS (Or.inl (List.mem_of_getElem? (i := 0) rfl)) (own_allS (Or.inl (List.mem_of_getElem? (i := 1) rfl)) (own_allS (Or.inl (List.mem_of_getElem? (i := 2) rfl)) (own_allS (Or.inl (List.mem_of_getElem? (i := 3) rfl)) own_all0))))
  have Zs2 := Nat.le_trans Z0 K2q.1
  obtain ⟨cq14, Arq14, -, Sq14, -, Hq14, -⟩ := id f12
  obtain ⟨T15, L15, X15, N15, hQ15, st15⟩ := trn l Z a0 hw o0 v0 l0 w0 kv kl kw t1 t2 kt us B1 B2 fr tt fa (fr + (1 : Int32)) rw1 T2.heap n0 Zs2 f4 f5 f6 f7 f3 f8 f9 f10 g_o0 g_v0 g_l0 g_w0 ne_o0_v0 ne_o0_l0 ne_o0_w0 ne_v0_l0 ne_v0_w0 ne_l0_w0 f13 ne_o0_t2 ne_v0_t2 ne_l0_t2 ne_w0_t2 hone_16_1 hx hby hml hown hZ X2 rfl N2
  obtain ⟨K15q, f16, f17, f18, f19, f20, f21, f22, f23⟩ := hQ15
  have f24 := f3.keep K15q
  have f25 := f12.keep K15q (own_niS (Ne.symm ne_o0_t1) (own_niS (Ne.symm ne_v0_t1) (own_niS (Ne.symm ne_l0_t1) (own_niS (Ne.symm ne_w0_t1) own_ni0))))
  have f26 := f13.keep K15q (own_niS (Ne.symm ne_o0_t2) (own_niS (Ne.symm ne_v0_t2) (own_niS (Ne.symm ne_l0_t2) (own_niS (Ne.symm ne_w0_t2) own_ni0))))
  have K15 : Keep h0 T15.heap [o0, v0, l0, w0] := K2.trans K15q (own_allS (Or.inl (List.mem_of_getElem? (i := 0) rfl)) (own_allS (Or.inl (List.mem_of_getElem? (i := 1) rfl)) (own_allS (Or.inl (List.mem_of_getElem? (i := 2) rfl)) (own_allS (Or.inl (List.mem_of_getElem? (i := 3) rfl)) own_all0))))
  have Zs15 := Nat.le_trans Zs2 K15q.1
  obtain ⟨cq27, Arq27, -, Sq27, -, Hq27, -⟩ := id f25
  obtain ⟨T28, L28, X28, N28, hQ28, st28⟩ := trn l Z a0 hw o0 v0 l0 w0 kv kl kw t1 t2 kt us B2 F fr tt fa ((fr + (1 : Int32)) + (1 : Int32)) rw2 T15.heap n0 Zs15 f17 f18 f19 f20 f16 f21 f22 f23 g_o0 g_v0 g_l0 g_w0 ne_o0_v0 ne_o0_l0 ne_o0_w0 ne_v0_l0 ne_v0_w0 ne_l0_w0 f26 ne_o0_t2 ne_v0_t2 ne_l0_t2 ne_w0_t2 hone_16_2 hx hby hml hown hZ X15 rfl N15
  obtain ⟨K28q, f29, f30, f31, f32, f33, f34, f35, f36⟩ := hQ28
  have f37 := f16.keep K28q
  have f38 := f25.keep K28q (own_niS (Ne.symm ne_o0_t1) (own_niS (Ne.symm ne_v0_t1) (own_niS (Ne.symm ne_l0_t1) (own_niS (Ne.symm ne_w0_t1) own_ni0))))
  have f39 := f26.keep K28q (own_niS (Ne.symm ne_o0_t2) (own_niS (Ne.symm ne_v0_t2) (own_niS (Ne.symm ne_l0_t2) (own_niS (Ne.symm ne_w0_t2) own_ni0))))
  have K28 : Keep h0 T28.heap [o0, v0, l0, w0] := K15.trans K28q (own_allS (Or.inl (List.mem_of_getElem? (i := 0) rfl)) (own_allS (Or.inl (List.mem_of_getElem? (i := 1) rfl)) (own_allS (Or.inl (List.mem_of_getElem? (i := 2) rfl)) (own_allS (Or.inl (List.mem_of_getElem? (i := 3) rfl)) own_all0))))
  have Zs28 := Nat.le_trans Zs15 K28q.1
  obtain ⟨fs, hr, hrun, hended, hW, hsame⟩ := X28.leave (v := none) (fun _ => rfl)
  refine ⟨_, _, pre0 _ ?_, hrun, hended, _, _, rfl, ?_, ⟨_, rfl⟩, hW, hsame.mono (by decide) (by decide)⟩
  · show Steps p.tables e below (s₁.setTop (mkF m 0 #[.val (.ref o0), .val (.ref t1), .val (.ref t2), .val (.int fr), .val (.int tt), .val (.double fa), .second, .unset, .unset] [])) _
    refine XS.iloadN X0.here hx rfl (hb hby d3_0) rfl ?_
    refine XS.istore X0.here hx rfl (hb hby d3_1) rfl (l' := #[.val (.ref o0), .val (.ref t1), .val (.ref t2), .val (.int fr), .val (.int tt), .val (.double fa), .second, .val (.int fr), .unset]) rfl ?_
    refine XS.iload X0.here hx rfl (hb hby d3_3) rfl ?_
    refine XS.iload X0.here hx rfl (hb hby d3_5) rfl ?_
    refine XS.icmpNo X0.here hx rfl (hb hby d3_7) rfl (tlt hc7).2.1 ?_
    show Steps p.tables e below (s₁.setTop (mkF m 10 #[.val (.ref o0), .val (.ref t1), .val (.ref t2), .val (.int fr), .val (.int tt), .val (.double fa), .second, .val (.int fr), .unset] [])) _
    refine XS.aloadN X0.here hx rfl (hb hby d3_10) rfl rfl ?_
    refine XS.iload X0.here hx rfl (hb hby d3_11) rfl ?_
    refine X0.iaload hx (j := fr) (v := (.int rw0)) (by rw [e0]; exact Arq1.1) (State.isArrayOf_alike hZ.alike Arq1.2.1) Arq1.2.2 (inb_of Sq1 hi0) (Has.at Hq1 (inb_of Sq1 hi0) ht0) (g := (mkF m 13 #[.val (.ref o0), .val (.ref t1), .val (.ref t2), .val (.int fr), .val (.int tt), .val (.double fa), .second, .val (.int fr), .unset] [(.int fr), (.ref t1)])) rfl rfl (hb hby d3_13) _ ?_
    show Steps p.tables e below (s₁.setTop (mkF m 14 #[.val (.ref o0), .val (.ref t1), .val (.ref t2), .val (.int fr), .val (.int tt), .val (.double fa), .second, .val (.int fr), .unset] [(.int rw0)])) _
    refine XS.istore X0.here hx rfl (hb hby d3_14) rfl (l' := #[.val (.ref o0), .val (.ref t1), .val (.ref t2), .val (.int fr), .val (.int tt), .val (.double fa), .second, .val (.int fr), .val (.int rw0)]) rfl ?_
    show Steps p.tables e below (s₁.setTop (mkF m 16 #[.val (.ref o0), .val (.ref t1), .val (.ref t2), .val (.int fr), .val (.int tt), .val (.double fa), .second, .val (.int fr), .val (.int rw0)] [])) _
    refine st2 _ ?_
    show Steps p.tables e below (T2.setTop (mkF m 3 #[.val (.ref o0), .val (.ref t1), .val (.ref t2), .val (.int fr), .val (.int tt), .val (.double fa), .second, .val (.int (fr + (1 : Int32))), .val (.int rw0)] [])) _
    show Steps p.tables e below (T2.setTop (mkF m 3 #[.val (.ref o0), .val (.ref t1), .val (.ref t2), .val (.int fr), .val (.int tt), .val (.double fa), .second, .val (.int (fr + (1 : Int32))), .val (.int rw0)] [])) _
    refine XS.iload X2.here hx rfl (hb hby d3_3) rfl ?_
    refine XS.iload X2.here hx rfl (hb hby d3_5) rfl ?_
    refine XS.icmpNo X2.here hx rfl (hb hby d3_7) rfl (tlt hc7_1).2.1 ?_
    refine XS.aloadN X2.here hx rfl (hb hby d3_10) rfl rfl ?_
    refine XS.iload X2.here hx rfl (hb hby d3_11) rfl ?_
    refine X2.iaload hx (j := (fr + (1 : Int32))) (v := (.int rw1)) Arq14.1 (State.isArrayOf_alike hZ.alike Arq14.2.1) Arq14.2.2 (inb_of Sq14 hi1) (Has.at Hq14 (inb_of Sq14 hi1) ht1) (g := (mkF m 13 #[.val (.ref o0), .val (.ref t1), .val (.ref t2), .val (.int fr), .val (.int tt), .val (.double fa), .second, .val (.int (fr + (1 : Int32))), .val (.int rw0)] [(.int (fr + (1 : Int32))), (.ref t1)])) rfl rfl (hb hby d3_13) _ ?_
    show Steps p.tables e below (T2.setTop (mkF m 14 #[.val (.ref o0), .val (.ref t1), .val (.ref t2), .val (.int fr), .val (.int tt), .val (.double fa), .second, .val (.int (fr + (1 : Int32))), .val (.int rw0)] [(.int rw1)])) _
    refine XS.istore X2.here hx rfl (hb hby d3_14) rfl (l' := #[.val (.ref o0), .val (.ref t1), .val (.ref t2), .val (.int fr), .val (.int tt), .val (.double fa), .second, .val (.int (fr + (1 : Int32))), .val (.int rw1)]) rfl ?_
    show Steps p.tables e below (T2.setTop (mkF m 16 #[.val (.ref o0), .val (.ref t1), .val (.ref t2), .val (.int fr), .val (.int tt), .val (.double fa), .second, .val (.int (fr + (1 : Int32))), .val (.int rw1)] [])) _
    refine st15 _ ?_
    show Steps p.tables e below (T15.setTop (mkF m 3 #[.val (.ref o0), .val (.ref t1), .val (.ref t2), .val (.int fr), .val (.int tt), .val (.double fa), .second, .val (.int ((fr + (1 : Int32)) + (1 : Int32))), .val (.int rw1)] [])) _
    show Steps p.tables e below (T15.setTop (mkF m 3 #[.val (.ref o0), .val (.ref t1), .val (.ref t2), .val (.int fr), .val (.int tt), .val (.double fa), .second, .val (.int ((fr + (1 : Int32)) + (1 : Int32))), .val (.int rw1)] [])) _
    refine XS.iload X15.here hx rfl (hb hby d3_3) rfl ?_
    refine XS.iload X15.here hx rfl (hb hby d3_5) rfl ?_
    refine XS.icmpNo X15.here hx rfl (hb hby d3_7) rfl (tlt hc7_2).2.1 ?_
    show Steps p.tables e below (T15.setTop (mkF m 10 #[.val (.ref o0), .val (.ref t1), .val (.ref t2), .val (.int fr), .val (.int tt), .val (.double fa), .second, .val (.int ((fr + (1 : Int32)) + (1 : Int32))), .val (.int rw1)] [])) _
    refine XS.aloadN X15.here hx rfl (hb hby d3_10) rfl rfl ?_
    refine XS.iload X15.here hx rfl (hb hby d3_11) rfl ?_
    refine X15.iaload hx (j := ((fr + (1 : Int32)) + (1 : Int32))) (v := (.int rw2)) Arq27.1 (State.isArrayOf_alike hZ.alike Arq27.2.1) Arq27.2.2 (inb_of Sq27 hi2) (Has.at Hq27 (inb_of Sq27 hi2) ht2) (g := (mkF m 13 #[.val (.ref o0), .val (.ref t1), .val (.ref t2), .val (.int fr), .val (.int tt), .val (.double fa), .second, .val (.int ((fr + (1 : Int32)) + (1 : Int32))), .val (.int rw1)] [(.int ((fr + (1 : Int32)) + (1 : Int32))), (.ref t1)])) rfl rfl (hb hby d3_13) _ ?_
    show Steps p.tables e below (T15.setTop (mkF m 14 #[.val (.ref o0), .val (.ref t1), .val (.ref t2), .val (.int fr), .val (.int tt), .val (.double fa), .second, .val (.int ((fr + (1 : Int32)) + (1 : Int32))), .val (.int rw1)] [(.int rw2)])) _
    refine XS.istore X15.here hx rfl (hb hby d3_14) rfl (l' := #[.val (.ref o0), .val (.ref t1), .val (.ref t2), .val (.int fr), .val (.int tt), .val (.double fa), .second, .val (.int ((fr + (1 : Int32)) + (1 : Int32))), .val (.int rw2)]) rfl ?_
    show Steps p.tables e below (T15.setTop (mkF m 16 #[.val (.ref o0), .val (.ref t1), .val (.ref t2), .val (.int fr), .val (.int tt), .val (.double fa), .second, .val (.int ((fr + (1 : Int32)) + (1 : Int32))), .val (.int rw2)] [])) _
    refine st28 _ ?_
    show Steps p.tables e below (T28.setTop (mkF m 3 #[.val (.ref o0), .val (.ref t1), .val (.ref t2), .val (.int fr), .val (.int tt), .val (.double fa), .second, .val (.int (((fr + (1 : Int32)) + (1 : Int32)) + (1 : Int32))), .val (.int rw2)] [])) _
    show Steps p.tables e below (T28.setTop (mkF m 3 #[.val (.ref o0), .val (.ref t1), .val (.ref t2), .val (.int fr), .val (.int tt), .val (.double fa), .second, .val (.int (((fr + (1 : Int32)) + (1 : Int32)) + (1 : Int32))), .val (.int rw2)] [])) _
    refine XS.iload X28.here hx rfl (hb hby d3_3) rfl ?_
    refine XS.iload X28.here hx rfl (hb hby d3_5) rfl ?_
    refine XS.icmpYes X28.here hx rfl (pc0 := 7) (pc' := 75) rfl (hb hby d3_7) rfl (flt hc7_3).2.1 (by decide) (by decide) ?_
    exact X28.returnOut hx Bd.returns (hb hby d3_75) hr
  · show Q_sub3 Z o0 v0 l0 w0 kv kl kw t1 t2 ks kt ts us A F fr tt fa B1 B2 rw0 rw1 rw2 h0 n0 _ T28.heap _
    exact ⟨rfl, N28, K28, f29, f30, f31, f32, f33, f34, f35, f36⟩
def Q_subM (Z : State) (o0 : Addr) (v0 : Addr) (l0 : Addr) (w0 : Addr) (kv : ClassId) (kl : ClassId) (kw : ClassId) (t1 : Addr) (t2 : Addr) (ks : ClassId) (kt : ClassId) (ts : List Value) (us : List Value) (A : Jvm.OwnSC.OwnSt) (F : Jvm.OwnSC.OwnSt) (fr : Int32) (tt : Int32) (fa : UInt64) (h0 : Heap) (n0 : Nat) (v : Option Value) (h : Heap) (L : List Loc) : Prop := v = none ∧ Fr n0 L ∧ Keep h0 h [o0, v0, l0, w0] ∧ Exa Z h o0 "com/example/leeway/leeway/lp/SparseColumn" ∧ Fld Z h o0 "com/example/leeway/leeway/lp/SparseColumn" "values" "[D" (.ref v0) ∧ Fld Z h o0 "com/example/leeway/leeway/lp/SparseColumn" "listed" "[Z" (.ref l0) ∧ Fld Z h o0 "com/example/leeway/leeway/lp/SparseColumn" "rows" "[I" (.ref w0) ∧ Fld Z h o0 "com/example/leeway/leeway/lp/SparseColumn" "count" "I" (.int F.1) ∧ Arv Z h v0 kv .double (4 : Int32) F.2.2.2 (.double (0 : UInt64)) ∧ Arv Z h l0 kl .boolean (4 : Int32) F.2.2.1 (.int (0 : Int32)) ∧ Arv Z h w0 kw .int (4 : Int32) F.2.1 (.int (0 : Int32))
set_option maxHeartbeats 40000000 in
theorem subM (l : Launch) (Z : State) (a0 : Array Value) (hw : ∀ d ∈ tables_1, d.before a0 Z = true) (ws : List Jvm.Cond) (o0 : Addr) (v0 : Addr) (l0 : Addr) (w0 : Addr) (kv : ClassId) (kl : ClassId) (kw : ClassId) (t1 : Addr) (t2 : Addr) (ks : ClassId) (kt : ClassId) (ts : List Value) (us : List Value) (A : Jvm.OwnSC.OwnSt) (F : Jvm.OwnSC.OwnSt) (fr : Int32) (tt : Int32) (fa : UInt64) (h0 : Heap) (n0 : Nat) (Z0 : n0 ≤ h0.size) (F_values_o0 : Fld Z h0 o0 "com/example/leeway/leeway/lp/SparseColumn" "values" "[D" (.ref v0)) (F_listed_o0 : Fld Z h0 o0 "com/example/leeway/leeway/lp/SparseColumn" "listed" "[Z" (.ref l0)) (F_rows_o0 : Fld Z h0 o0 "com/example/leeway/leeway/lp/SparseColumn" "rows" "[I" (.ref w0)) (F_count_o0 : Fld Z h0 o0 "com/example/leeway/leeway/lp/SparseColumn" "count" "I" (.int A.1)) (E_o0 : Exa Z h0 o0 "com/example/leeway/leeway/lp/SparseColumn") (V_v0 : Arv Z h0 v0 kv .double (4 : Int32) A.2.2.2 (.double (0 : UInt64))) (V_l0 : Arv Z h0 l0 kl .boolean (4 : Int32) A.2.2.1 (.int (0 : Int32))) (V_w0 : Arv Z h0 w0 kw .int (4 : Int32) A.2.1 (.int (0 : Int32))) (g_o0 : n0 ≤ o0) (g_v0 : n0 ≤ v0) (g_l0 : n0 ≤ l0) (g_w0 : n0 ≤ w0) (ne_o0_v0 : o0 ≠ v0) (ne_o0_l0 : o0 ≠ l0) (ne_o0_w0 : o0 ≠ w0) (ne_v0_l0 : v0 ≠ l0) (ne_v0_w0 : v0 ≠ w0) (ne_l0_w0 : l0 ≠ w0) (V_t1 : Arv Z h0 t1 ks .int (3 : Int32) ts (.int (0 : Int32))) (V_t2 : Arv Z h0 t2 kt .double (3 : Int32) us (.double (0 : UInt64))) (ne_o0_t1 : o0 ≠ t1) (ne_o0_t2 : o0 ≠ t2) (ne_v0_t1 : v0 ≠ t1) (ne_v0_t2 : v0 ≠ t2) (ne_l0_t1 : l0 ≠ t1) (ne_l0_t2 : l0 ≠ t2) (ne_w0_t1 : w0 ≠ t1) (ne_w0_t2 : w0 ≠ t2) (hsub : Jvm.OwnSC.SubR A F fr tt ts us fa) :
    MetFree l (⟨"com/example/leeway/leeway/lp/SparseColumn", "subtract", "([I[DIID)V"⟩ : MethodName) (head1 (Jvm.Cond.code (⟨"com/example/leeway/leeway/lp/SparseColumn", "subtract", "([I[DIID)V"⟩ : MethodName) prog_87_method_7_code 9 none :: ws) ({ frames := 0, cells := 0, slots := 0, locals := 0 } : Room)) (fun a U => a = #[(.ref o0), (.ref t1), (.ref t2), (.int fr), (.int tt), (.double fa)] ∧ Z.Warmed39 U.vm ∧ U.heap = h0) (fun _ _ _ _ _ => True) (fun _ U o U' => ∃ v L, o = .returned v ∧ Q_subM Z o0 v0 l0 w0 kv kl kw t1 t2 ks kt ts us A F fr tt fa h0 n0 v U'.heap L ∧ FrameEnd U o U' L ({ frames := 0, cells := 0, slots := 0, locals := 0 } : Room).cells ({ frames := 0, cells := 0, slots := 0, locals := 0 } : Room).slots) := by
  rcases hsub with ⟨h0', hAF⟩ | ⟨h0', h1', rw0, i0, t0, o0'⟩ | ⟨h0', h1', h2', B1, rw0, rw1, i0, t0, o0', i1, t1', o1⟩ | ⟨h0', h1', h2', h3', B1, B2, rw0, rw1, rw2, i0, t0, o0', i1, t1', o1, i2, t2', o2⟩
  · subst hAF
    exact sub0 l Z a0 hw ws o0 v0 l0 w0 kv kl kw t1 t2 ks kt ts us A A fr tt fa h0 n0 Z0 (F_values_o0 := F_values_o0) (F_listed_o0 := F_listed_o0) (F_rows_o0 := F_rows_o0) (F_count_o0 := F_count_o0) (E_o0 := E_o0) (V_v0 := V_v0) (V_l0 := V_l0) (V_w0 := V_w0) (g_o0 := g_o0) (g_v0 := g_v0) (g_l0 := g_l0) (g_w0 := g_w0) (ne_o0_v0 := ne_o0_v0) (ne_o0_l0 := ne_o0_l0) (ne_o0_w0 := ne_o0_w0) (ne_v0_l0 := ne_v0_l0) (ne_v0_w0 := ne_v0_w0) (ne_l0_w0 := ne_l0_w0) (V_t1 := V_t1) (V_t2 := V_t2) (ne_o0_t1 := ne_o0_t1) (ne_o0_t2 := ne_o0_t2) (ne_v0_t1 := ne_v0_t1) (ne_v0_t2 := ne_v0_t2) (ne_l0_t1 := ne_l0_t1) (ne_l0_t2 := ne_l0_t2) (ne_w0_t1 := ne_w0_t1) (ne_w0_t2 := ne_w0_t2) (hc7 := h0')
  · exact sub1 l Z a0 hw ws o0 v0 l0 w0 kv kl kw t1 t2 ks kt ts us A F fr tt fa _ h0 n0 Z0 (F_values_o0 := F_values_o0) (F_listed_o0 := F_listed_o0) (F_rows_o0 := F_rows_o0) (F_count_o0 := F_count_o0) (E_o0 := E_o0) (V_v0 := V_v0) (V_l0 := V_l0) (V_w0 := V_w0) (g_o0 := g_o0) (g_v0 := g_v0) (g_l0 := g_l0) (g_w0 := g_w0) (ne_o0_v0 := ne_o0_v0) (ne_o0_l0 := ne_o0_l0) (ne_o0_w0 := ne_o0_w0) (ne_v0_l0 := ne_v0_l0) (ne_v0_w0 := ne_v0_w0) (ne_l0_w0 := ne_l0_w0) (V_t1 := V_t1) (V_t2 := V_t2) (ne_o0_t1 := ne_o0_t1) (ne_o0_t2 := ne_o0_t2) (ne_v0_t1 := ne_v0_t1) (ne_v0_t2 := ne_v0_t2) (ne_l0_t1 := ne_l0_t1) (ne_l0_t2 := ne_l0_t2) (ne_w0_t1 := ne_w0_t1) (ne_w0_t2 := ne_w0_t2) (hc7 := h0') (hc7_1 := h1') (hi0 := i0) (ht0 := t0) (hone_16 := o0')
  · exact sub2 l Z a0 hw ws o0 v0 l0 w0 kv kl kw t1 t2 ks kt ts us A F fr tt fa _ _ _ h0 n0 Z0 (F_values_o0 := F_values_o0) (F_listed_o0 := F_listed_o0) (F_rows_o0 := F_rows_o0) (F_count_o0 := F_count_o0) (E_o0 := E_o0) (V_v0 := V_v0) (V_l0 := V_l0) (V_w0 := V_w0) (g_o0 := g_o0) (g_v0 := g_v0) (g_l0 := g_l0) (g_w0 := g_w0) (ne_o0_v0 := ne_o0_v0) (ne_o0_l0 := ne_o0_l0) (ne_o0_w0 := ne_o0_w0) (ne_v0_l0 := ne_v0_l0) (ne_v0_w0 := ne_v0_w0) (ne_l0_w0 := ne_l0_w0) (V_t1 := V_t1) (V_t2 := V_t2) (ne_o0_t1 := ne_o0_t1) (ne_o0_t2 := ne_o0_t2) (ne_v0_t1 := ne_v0_t1) (ne_v0_t2 := ne_v0_t2) (ne_l0_t1 := ne_l0_t1) (ne_l0_t2 := ne_l0_t2) (ne_w0_t1 := ne_w0_t1) (ne_w0_t2 := ne_w0_t2) (hc7 := h0') (hc7_1 := h1') (hc7_2 := h2') (hi0 := i0) (ht0 := t0) (hone_16 := o0') (hi1 := i1) (ht1 := t1') (hone_16_1 := o1)
  · exact sub3 l Z a0 hw ws o0 v0 l0 w0 kv kl kw t1 t2 ks kt ts us A F fr tt fa _ _ _ _ _ h0 n0 Z0 (F_values_o0 := F_values_o0) (F_listed_o0 := F_listed_o0) (F_rows_o0 := F_rows_o0) (F_count_o0 := F_count_o0) (E_o0 := E_o0) (V_v0 := V_v0) (V_l0 := V_l0) (V_w0 := V_w0) (g_o0 := g_o0) (g_v0 := g_v0) (g_l0 := g_l0) (g_w0 := g_w0) (ne_o0_v0 := ne_o0_v0) (ne_o0_l0 := ne_o0_l0) (ne_o0_w0 := ne_o0_w0) (ne_v0_l0 := ne_v0_l0) (ne_v0_w0 := ne_v0_w0) (ne_l0_w0 := ne_l0_w0) (V_t1 := V_t1) (V_t2 := V_t2) (ne_o0_t1 := ne_o0_t1) (ne_o0_t2 := ne_o0_t2) (ne_v0_t1 := ne_v0_t1) (ne_v0_t2 := ne_v0_t2) (ne_l0_t1 := ne_l0_t1) (ne_l0_t2 := ne_l0_t2) (ne_w0_t1 := ne_w0_t1) (ne_w0_t2 := ne_w0_t2) (hc7 := h0') (hc7_1 := h1') (hc7_2 := h2') (hc7_3 := h3') (hi0 := i0) (ht0 := t0) (hone_16 := o0') (hi1 := i1) (ht1 := t1') (hone_16_1 := o1) (hi2 := i2) (ht2 := t2') (hone_16_2 := o2)
theorem d4_0 : decode prog_87_method_2_code 0 = .ok (.aload_n 0, 1) := by decide +kernel
theorem d4_1 : decode prog_87_method_2_code 1 = .ok (.getfield 7, 3) := by decide +kernel
theorem d4_4 : decode prog_87_method_2_code 4 = .ok (.areturn, 1) := by decide +kernel
theorem ef_4_R (m : MethodId) (x0 : Addr) : entryFrame m #[(.ref x0)] 1 = mkF m 0 #[.val (.ref x0)] [] := by first | (simp [entryFrame, mkF, argsToLocals, Value.category]; done) | rfl
def Q_gvs (Z : State) (o0 : Addr) (v0 : Addr) (l0 : Addr) (w0 : Addr) (kv : ClassId) (kl : ClassId) (kw : ClassId) (A : Jvm.OwnSC.OwnSt) (h0 : Heap) (n0 : Nat) (v : Option Value) (h : Heap) (L : List Loc) : Prop := v = some (.ref v0) ∧ Fr n0 L ∧ h = h0
set_option maxRecDepth 65536 in
set_option maxHeartbeats 40000000 in
theorem gvs (l : Launch) (Z : State) (a0 : Array Value) (hw : ∀ d ∈ tables_1, d.before a0 Z = true) (ws : List Jvm.Cond) (o0 : Addr) (v0 : Addr) (l0 : Addr) (w0 : Addr) (kv : ClassId) (kl : ClassId) (kw : ClassId) (A : Jvm.OwnSC.OwnSt) (h0 : Heap) (n0 : Nat) (Z0 : n0 ≤ h0.size) (F_values_o0 : Fld Z h0 o0 "com/example/leeway/leeway/lp/SparseColumn" "values" "[D" (.ref v0)) (F_listed_o0 : Fld Z h0 o0 "com/example/leeway/leeway/lp/SparseColumn" "listed" "[Z" (.ref l0)) (F_rows_o0 : Fld Z h0 o0 "com/example/leeway/leeway/lp/SparseColumn" "rows" "[I" (.ref w0)) (F_count_o0 : Fld Z h0 o0 "com/example/leeway/leeway/lp/SparseColumn" "count" "I" (.int A.1)) (E_o0 : Exa Z h0 o0 "com/example/leeway/leeway/lp/SparseColumn") (V_v0 : Arv Z h0 v0 kv .double (4 : Int32) A.2.2.2 (.double (0 : UInt64))) (V_l0 : Arv Z h0 l0 kl .boolean (4 : Int32) A.2.2.1 (.int (0 : Int32))) (V_w0 : Arv Z h0 w0 kw .int (4 : Int32) A.2.1 (.int (0 : Int32))) :
    MetFree l (⟨"com/example/leeway/leeway/lp/SparseColumn", "values", "()[D"⟩ : MethodName) (head1 (Jvm.Cond.code (⟨"com/example/leeway/leeway/lp/SparseColumn", "values", "()[D"⟩ : MethodName) prog_87_method_2_code 1 (some (.array .double)) :: ws) ({ frames := 0, cells := 0, slots := 0, locals := 0 } : Room)) (fun a U => a = #[(.ref o0)] ∧ Z.Warmed39 U.vm ∧ U.heap = h0) (fun _ _ _ _ _ => True) (fun _ U o U' => ∃ v L, o = .returned v ∧ Q_gvs Z o0 v0 l0 w0 kv kl kw A h0 n0 v U'.heap L ∧ FrameEnd U o U' L ({ frames := 0, cells := 0, slots := 0, locals := 0 } : Room).cells ({ frames := 0, cells := 0, slots := 0, locals := 0 } : Room).slots) := by
  refine MetFree.of_bodySF (plainFor_of_name pn_com_example_leeway_leeway_lp_SparseColumn) hisR ?_
  intro p e s m args below meth c s₁ Bd hml0 hP hK
  obtain ⟨rfl, hZ, hh⟩ := hP
  have hx := Bd.exec
  have hby := Bd.bytes
  have hml : c.maxLocals = 1 := hml0
  have hown : s.vm.findClass "com/example/leeway/leeway/lp/SparseColumn" = some m.cls := findClass_of_methodNamed Bd.named
  have hnm := (name_of_methodNamed Bd.named Bd.method).1
  have X0 : Stand p l e ({ frames := 0, cells := 0, slots := 0, locals := 0 } : Room) s m #[(.ref o0)] below meth c s₁ [] 0 0 := Stand.of_body Bd
  have e0 : s₁.heap = h0 := by rw [← hh, Bd.state]; rfl
  have N0 := Fr.nil n0
  have pre0 : ∀ t, Steps p.tables e below (s₁.setTop (mkF m 0 #[.val (.ref o0)] [])) t → Steps p.tables e below (s₁.setTop (entryFrame m #[(.ref o0)] 1)) t := fun t k => castTop (ef_4_R m o0) k
  obtain ⟨T1, X1, e1, st1⟩ := getF X0 hx hZ hown (host := "") (Or.inl (hw _ (List.mem_of_getElem? (i := 12) rfl))) Via.refl e0 F_values_o0 (g := (mkF m 1 #[.val (.ref o0)] [(.ref o0)])) rfl rfl (hb hby d4_1)
  obtain ⟨fs, hr, hrun, hended, hW, hsame⟩ := X1.leave (v := some (.ref v0)) (fun h => by rw [Bd.returns] at h; cases h)
  refine ⟨_, _, pre0 _ ?_, hrun, hended, _, _, rfl, ?_, ⟨_, rfl⟩, hW, hsame.mono (by decide) (by decide)⟩
  · show Steps p.tables e below (s₁.setTop (mkF m 0 #[.val (.ref o0)] [])) _
    refine XS.aloadN X0.here hx rfl (hb hby d4_0) rfl rfl ?_
    refine st1 _ ?_
    show Steps p.tables e below (T1.setTop (mkF m 4 #[.val (.ref o0)] [(.ref v0)])) _
    exact retOut X1 hx Bd.returns rfl (Or.inr (Or.inr (Or.inr (Or.inr ⟨rfl, rfl, rfl⟩)))) (hb hby d4_4) hr
  · show Q_gvs Z o0 v0 l0 w0 kv kl kw A h0 n0 _ T1.heap _
    rw [e1]
    exact ⟨rfl, N0, rfl⟩
theorem d5_0 : decode prog_87_method_3_code 0 = .ok (.aload_n 0, 1) := by decide +kernel
theorem d5_1 : decode prog_87_method_3_code 1 = .ok (.getfield 17, 3) := by decide +kernel
theorem d5_4 : decode prog_87_method_3_code 4 = .ok (.areturn, 1) := by decide +kernel
theorem ef_5_R (m : MethodId) (x0 : Addr) : entryFrame m #[(.ref x0)] 1 = mkF m 0 #[.val (.ref x0)] [] := by first | (simp [entryFrame, mkF, argsToLocals, Value.category]; done) | rfl
def Q_grs (Z : State) (o0 : Addr) (v0 : Addr) (l0 : Addr) (w0 : Addr) (kv : ClassId) (kl : ClassId) (kw : ClassId) (A : Jvm.OwnSC.OwnSt) (h0 : Heap) (n0 : Nat) (v : Option Value) (h : Heap) (L : List Loc) : Prop := v = some (.ref w0) ∧ Fr n0 L ∧ h = h0
set_option maxRecDepth 65536 in
set_option maxHeartbeats 40000000 in
theorem grs (l : Launch) (Z : State) (a0 : Array Value) (hw : ∀ d ∈ tables_1, d.before a0 Z = true) (ws : List Jvm.Cond) (o0 : Addr) (v0 : Addr) (l0 : Addr) (w0 : Addr) (kv : ClassId) (kl : ClassId) (kw : ClassId) (A : Jvm.OwnSC.OwnSt) (h0 : Heap) (n0 : Nat) (Z0 : n0 ≤ h0.size) (F_values_o0 : Fld Z h0 o0 "com/example/leeway/leeway/lp/SparseColumn" "values" "[D" (.ref v0)) (F_listed_o0 : Fld Z h0 o0 "com/example/leeway/leeway/lp/SparseColumn" "listed" "[Z" (.ref l0)) (F_rows_o0 : Fld Z h0 o0 "com/example/leeway/leeway/lp/SparseColumn" "rows" "[I" (.ref w0)) (F_count_o0 : Fld Z h0 o0 "com/example/leeway/leeway/lp/SparseColumn" "count" "I" (.int A.1)) (E_o0 : Exa Z h0 o0 "com/example/leeway/leeway/lp/SparseColumn") (V_v0 : Arv Z h0 v0 kv .double (4 : Int32) A.2.2.2 (.double (0 : UInt64))) (V_l0 : Arv Z h0 l0 kl .boolean (4 : Int32) A.2.2.1 (.int (0 : Int32))) (V_w0 : Arv Z h0 w0 kw .int (4 : Int32) A.2.1 (.int (0 : Int32))) :
    MetFree l (⟨"com/example/leeway/leeway/lp/SparseColumn", "rows", "()[I"⟩ : MethodName) (head1 (Jvm.Cond.code (⟨"com/example/leeway/leeway/lp/SparseColumn", "rows", "()[I"⟩ : MethodName) prog_87_method_3_code 1 (some (.array .int)) :: ws) ({ frames := 0, cells := 0, slots := 0, locals := 0 } : Room)) (fun a U => a = #[(.ref o0)] ∧ Z.Warmed39 U.vm ∧ U.heap = h0) (fun _ _ _ _ _ => True) (fun _ U o U' => ∃ v L, o = .returned v ∧ Q_grs Z o0 v0 l0 w0 kv kl kw A h0 n0 v U'.heap L ∧ FrameEnd U o U' L ({ frames := 0, cells := 0, slots := 0, locals := 0 } : Room).cells ({ frames := 0, cells := 0, slots := 0, locals := 0 } : Room).slots) := by
  refine MetFree.of_bodySF (plainFor_of_name pn_com_example_leeway_leeway_lp_SparseColumn) hisR ?_
  intro p e s m args below meth c s₁ Bd hml0 hP hK
  obtain ⟨rfl, hZ, hh⟩ := hP
  have hx := Bd.exec
  have hby := Bd.bytes
  have hml : c.maxLocals = 1 := hml0
  have hown : s.vm.findClass "com/example/leeway/leeway/lp/SparseColumn" = some m.cls := findClass_of_methodNamed Bd.named
  have hnm := (name_of_methodNamed Bd.named Bd.method).1
  have X0 : Stand p l e ({ frames := 0, cells := 0, slots := 0, locals := 0 } : Room) s m #[(.ref o0)] below meth c s₁ [] 0 0 := Stand.of_body Bd
  have e0 : s₁.heap = h0 := by rw [← hh, Bd.state]; rfl
  have N0 := Fr.nil n0
  have pre0 : ∀ t, Steps p.tables e below (s₁.setTop (mkF m 0 #[.val (.ref o0)] [])) t → Steps p.tables e below (s₁.setTop (entryFrame m #[(.ref o0)] 1)) t := fun t k => castTop (ef_5_R m o0) k
  obtain ⟨T1, X1, e1, st1⟩ := getF X0 hx hZ hown (host := "") (Or.inl (hw _ (List.mem_of_getElem? (i := 16) rfl))) Via.refl e0 F_rows_o0 (g := (mkF m 1 #[.val (.ref o0)] [(.ref o0)])) rfl rfl (hb hby d5_1)
  obtain ⟨fs, hr, hrun, hended, hW, hsame⟩ := X1.leave (v := some (.ref w0)) (fun h => by rw [Bd.returns] at h; cases h)
  refine ⟨_, _, pre0 _ ?_, hrun, hended, _, _, rfl, ?_, ⟨_, rfl⟩, hW, hsame.mono (by decide) (by decide)⟩
  · show Steps p.tables e below (s₁.setTop (mkF m 0 #[.val (.ref o0)] [])) _
    refine XS.aloadN X0.here hx rfl (hb hby d5_0) rfl rfl ?_
    refine st1 _ ?_
    show Steps p.tables e below (T1.setTop (mkF m 4 #[.val (.ref o0)] [(.ref w0)])) _
    exact retOut X1 hx Bd.returns rfl (Or.inr (Or.inr (Or.inr (Or.inr ⟨rfl, rfl, rfl⟩)))) (hb hby d5_4) hr
  · show Q_grs Z o0 v0 l0 w0 kv kl kw A h0 n0 _ T1.heap _
    rw [e1]
    exact ⟨rfl, N0, rfl⟩
theorem d6_0 : decode prog_87_method_4_code 0 = .ok (.aload_n 0, 1) := by decide +kernel
theorem d6_1 : decode prog_87_method_4_code 1 = .ok (.getfield 21, 3) := by decide +kernel
theorem d6_4 : decode prog_87_method_4_code 4 = .ok (.ireturn, 1) := by decide +kernel
theorem ef_6_R (m : MethodId) (x0 : Addr) : entryFrame m #[(.ref x0)] 1 = mkF m 0 #[.val (.ref x0)] [] := by first | (simp [entryFrame, mkF, argsToLocals, Value.category]; done) | rfl
def Q_gct (Z : State) (o0 : Addr) (v0 : Addr) (l0 : Addr) (w0 : Addr) (kv : ClassId) (kl : ClassId) (kw : ClassId) (A : Jvm.OwnSC.OwnSt) (h0 : Heap) (n0 : Nat) (v : Option Value) (h : Heap) (L : List Loc) : Prop := v = some (.int A.1) ∧ Fr n0 L ∧ h = h0
set_option maxRecDepth 65536 in
set_option maxHeartbeats 40000000 in
theorem gct (l : Launch) (Z : State) (a0 : Array Value) (hw : ∀ d ∈ tables_1, d.before a0 Z = true) (ws : List Jvm.Cond) (o0 : Addr) (v0 : Addr) (l0 : Addr) (w0 : Addr) (kv : ClassId) (kl : ClassId) (kw : ClassId) (A : Jvm.OwnSC.OwnSt) (h0 : Heap) (n0 : Nat) (Z0 : n0 ≤ h0.size) (F_values_o0 : Fld Z h0 o0 "com/example/leeway/leeway/lp/SparseColumn" "values" "[D" (.ref v0)) (F_listed_o0 : Fld Z h0 o0 "com/example/leeway/leeway/lp/SparseColumn" "listed" "[Z" (.ref l0)) (F_rows_o0 : Fld Z h0 o0 "com/example/leeway/leeway/lp/SparseColumn" "rows" "[I" (.ref w0)) (F_count_o0 : Fld Z h0 o0 "com/example/leeway/leeway/lp/SparseColumn" "count" "I" (.int A.1)) (E_o0 : Exa Z h0 o0 "com/example/leeway/leeway/lp/SparseColumn") (V_v0 : Arv Z h0 v0 kv .double (4 : Int32) A.2.2.2 (.double (0 : UInt64))) (V_l0 : Arv Z h0 l0 kl .boolean (4 : Int32) A.2.2.1 (.int (0 : Int32))) (V_w0 : Arv Z h0 w0 kw .int (4 : Int32) A.2.1 (.int (0 : Int32))) :
    MetFree l (⟨"com/example/leeway/leeway/lp/SparseColumn", "count", "()I"⟩ : MethodName) (head1 (Jvm.Cond.code (⟨"com/example/leeway/leeway/lp/SparseColumn", "count", "()I"⟩ : MethodName) prog_87_method_4_code 1 (some .int) :: ws) ({ frames := 0, cells := 0, slots := 0, locals := 0 } : Room)) (fun a U => a = #[(.ref o0)] ∧ Z.Warmed39 U.vm ∧ U.heap = h0) (fun _ _ _ _ _ => True) (fun _ U o U' => ∃ v L, o = .returned v ∧ Q_gct Z o0 v0 l0 w0 kv kl kw A h0 n0 v U'.heap L ∧ FrameEnd U o U' L ({ frames := 0, cells := 0, slots := 0, locals := 0 } : Room).cells ({ frames := 0, cells := 0, slots := 0, locals := 0 } : Room).slots) := by
  refine MetFree.of_bodySF (plainFor_of_name pn_com_example_leeway_leeway_lp_SparseColumn) hisR ?_
  intro p e s m args below meth c s₁ Bd hml0 hP hK
  obtain ⟨rfl, hZ, hh⟩ := hP
  have hx := Bd.exec
  have hby := Bd.bytes
  have hml : c.maxLocals = 1 := hml0
  have hown : s.vm.findClass "com/example/leeway/leeway/lp/SparseColumn" = some m.cls := findClass_of_methodNamed Bd.named
  have hnm := (name_of_methodNamed Bd.named Bd.method).1
  have X0 : Stand p l e ({ frames := 0, cells := 0, slots := 0, locals := 0 } : Room) s m #[(.ref o0)] below meth c s₁ [] 0 0 := Stand.of_body Bd
  have e0 : s₁.heap = h0 := by rw [← hh, Bd.state]; rfl
  have N0 := Fr.nil n0
  have pre0 : ∀ t, Steps p.tables e below (s₁.setTop (mkF m 0 #[.val (.ref o0)] [])) t → Steps p.tables e below (s₁.setTop (entryFrame m #[(.ref o0)] 1)) t := fun t k => castTop (ef_6_R m o0) k
  obtain ⟨T1, X1, e1, st1⟩ := getF X0 hx hZ hown (host := "") (Or.inl (hw _ (List.mem_of_getElem? (i := 38) rfl))) Via.refl e0 F_count_o0 (g := (mkF m 1 #[.val (.ref o0)] [(.ref o0)])) rfl rfl (hb hby d6_1)
  obtain ⟨fs, hr, hrun, hended, hW, hsame⟩ := X1.leave (v := some (.int A.1)) (fun h => by rw [Bd.returns] at h; cases h)
  refine ⟨_, _, pre0 _ ?_, hrun, hended, _, _, rfl, ?_, ⟨_, rfl⟩, hW, hsame.mono (by decide) (by decide)⟩
  · show Steps p.tables e below (s₁.setTop (mkF m 0 #[.val (.ref o0)] [])) _
    refine XS.aloadN X0.here hx rfl (hb hby d6_0) rfl rfl ?_
    refine st1 _ ?_
    show Steps p.tables e below (T1.setTop (mkF m 4 #[.val (.ref o0)] [(.int A.1)])) _
    exact retOut X1 hx Bd.returns rfl (Or.inl ⟨rfl, Or.inl rfl, _, rfl⟩) (hb hby d6_4) hr
  · show Q_gct Z o0 v0 l0 w0 kv kl kw A h0 n0 _ T1.heap _
    rw [e1]
    exact ⟨rfl, N0, rfl⟩
theorem d7_0 : decode method_3_code 0 = .ok (.aload_n 1, 1) := by decide +kernel
theorem d7_1 : decode method_3_code 1 = .ok (.iconst 0, 1) := by decide +kernel
theorem d7_2 : decode method_3_code 2 = .ok (.baload, 1) := by decide +kernel
theorem d7_3 : decode method_3_code 3 = .ok (.ifCond .eq 10, 3) := by decide +kernel
theorem d7_6 : decode method_3_code 6 = .ok (.aload_n 2, 1) := by decide +kernel
theorem d7_7 : decode method_3_code 7 = .ok (.iconst 0, 1) := by decide +kernel
theorem d7_8 : decode method_3_code 8 = .ok (.iaload, 1) := by decide +kernel
theorem d7_9 : decode method_3_code 9 = .ok (.iload_n 0, 1) := by decide +kernel
theorem d7_10 : decode method_3_code 10 = .ok (.if_icmp .eq 58, 3) := by decide +kernel
theorem d7_68 : decode method_3_code 68 = .ok (.iconst 1, 1) := by decide +kernel
theorem d7_69 : decode method_3_code 69 = .ok (.goto 4, 3) := by decide +kernel
theorem d7_73 : decode method_3_code 73 = .ok (.ireturn, 1) := by decide +kernel
theorem pn_com_example_leeway_leeway_lp_SparseColumnSubtractPinLaw : plainName "com/example/leeway/leeway/lp/SparseColumnSubtractPinLaw" = true := by first | (simp [plainName, overriddenIn]; done) | decide +kernel
theorem ef_7_IRRRR (m : MethodId) (x0 : Int32) (x1 : Addr) (x2 : Addr) (x3 : Addr) (x4 : Addr) : entryFrame m #[(.int x0), (.ref x1), (.ref x2), (.ref x3), (.ref x4)] 5 = mkF m 0 #[.val (.int x0), .val (.ref x1), .val (.ref x2), .val (.ref x3), .val (.ref x4)] [] := by first | (simp [entryFrame, mkF, argsToLocals, Value.category]; done) | rfl
def Q_le0 (Z : State) (rr : Int32) (b1 : Addr) (b2 : Addr) (b3 : Addr) (b4 : Addr) (g1 : ClassId) (g2 : ClassId) (g3 : ClassId) (g4 : ClassId) (pa : Int32) (pb : Int32) (i1 : Int32) (i2 : Int32) (ia : Int32) (ib : Int32) (ic : Int32) (r0 : Int32) (r1 : Int32) (r2 : Int32) (h0 : Heap) (n0 : Nat) (v : Option Value) (h : Heap) (L : List Loc) : Prop := v = some (.int (1 : Int32)) ∧ Fr n0 L ∧ h = h0
set_option maxRecDepth 65536 in
set_option maxHeartbeats 40000000 in
theorem le0 (l : Launch) (Z : State) (a0 : Array Value) (hw : ∀ d ∈ tables_1, d.before a0 Z = true) (ws : List Jvm.Cond) (rr : Int32) (b1 : Addr) (b2 : Addr) (b3 : Addr) (b4 : Addr) (g1 : ClassId) (g2 : ClassId) (g3 : ClassId) (g4 : ClassId) (pa : Int32) (pb : Int32) (i1 : Int32) (i2 : Int32) (ia : Int32) (ib : Int32) (ic : Int32) (r0 : Int32) (r1 : Int32) (r2 : Int32) (h0 : Heap) (n0 : Nat) (Z0 : n0 ≤ h0.size) (V_b1 : Arv Z h0 b1 g1 .boolean (2 : Int32) [(.int pa), (.int pb)] (.int (0 : Int32))) (V_b2 : Arv Z h0 b2 g2 .int (2 : Int32) [(.int i1), (.int i2)] (.int (0 : Int32))) (V_b3 : Arv Z h0 b3 g3 .boolean (3 : Int32) [(.int ia), (.int ib), (.int ic)] (.int (0 : Int32))) (V_b4 : Arv Z h0 b4 g4 .int (3 : Int32) [(.int r0), (.int r1), (.int r2)] (.int (0 : Int32))) (hfl : ¬ (pa = (0 : Int32))) (hre : i1 = rr) :
    MetFree l (⟨"com/example/leeway/leeway/lp/SparseColumnSubtractPinLaw", "listedExpected", "(I[Z[I[Z[I)Z"⟩ : MethodName) (head1 (Jvm.Cond.code (⟨"com/example/leeway/leeway/lp/SparseColumnSubtractPinLaw", "listedExpected", "(I[Z[I[Z[I)Z"⟩ : MethodName) method_3_code 5 (some .boolean) :: ws) ({ frames := 0, cells := 0, slots := 0, locals := 0 } : Room)) (fun a U => a = #[(.int rr), (.ref b1), (.ref b2), (.ref b3), (.ref b4)] ∧ Z.Warmed39 U.vm ∧ U.heap = h0) (fun _ _ _ _ _ => True) (fun _ U o U' => ∃ v L, o = .returned v ∧ Q_le0 Z rr b1 b2 b3 b4 g1 g2 g3 g4 pa pb i1 i2 ia ib ic r0 r1 r2 h0 n0 v U'.heap L ∧ FrameEnd U o U' L ({ frames := 0, cells := 0, slots := 0, locals := 0 } : Room).cells ({ frames := 0, cells := 0, slots := 0, locals := 0 } : Room).slots) := by
  refine MetFree.of_bodySF (plainFor_of_name pn_com_example_leeway_leeway_lp_SparseColumnSubtractPinLaw) hisR ?_
  intro p e s m args below meth c s₁ Bd hml0 hP hK
  obtain ⟨rfl, hZ, hh⟩ := hP
  have hx := Bd.exec
  have hby := Bd.bytes
  have hml : c.maxLocals = 5 := hml0
  have hown : s.vm.findClass "com/example/leeway/leeway/lp/SparseColumnSubtractPinLaw" = some m.cls := findClass_of_methodNamed Bd.named
  have hnm := (name_of_methodNamed Bd.named Bd.method).1
  have X0 : Stand p l e ({ frames := 0, cells := 0, slots := 0, locals := 0 } : Room) s m #[(.int rr), (.ref b1), (.ref b2), (.ref b3), (.ref b4)] below meth c s₁ [] 0 0 := Stand.of_body Bd
  have e0 : s₁.heap = h0 := by rw [← hh, Bd.state]; rfl
  have N0 := Fr.nil n0
  have pre0 : ∀ t, Steps p.tables e below (s₁.setTop (mkF m 0 #[.val (.int rr), .val (.ref b1), .val (.ref b2), .val (.ref b3), .val (.ref b4)] [])) t → Steps p.tables e below (s₁.setTop (entryFrame m #[(.int rr), (.ref b1), (.ref b2), (.ref b3), (.ref b4)] 5)) t := fun t k => castTop (ef_7_IRRRR m rr b1 b2 b3 b4) k
  obtain ⟨cq1, Arq1, -, Sq1, -, Hq1, -⟩ := id V_b1
  obtain ⟨cq2, Arq2, -, Sq2, -, Hq2, -⟩ := id V_b2
  obtain ⟨fs, hr, hrun, hended, hW, hsame⟩ := X0.leave (v := some (.int (1 : Int32))) (fun h => by rw [Bd.returns] at h; cases h)
  refine ⟨_, _, pre0 _ ?_, hrun, hended, _, _, rfl, ?_, ⟨_, rfl⟩, hW, hsame.mono (by decide) (by decide)⟩
  · show Steps p.tables e below (s₁.setTop (mkF m 0 #[.val (.int rr), .val (.ref b1), .val (.ref b2), .val (.ref b3), .val (.ref b4)] [])) _
    refine XS.aloadN X0.here hx rfl (hb hby d7_0) rfl rfl ?_
    refine XS.iconst X0.here hx rfl (hb hby d7_1) ?_
    refine X0.baloadBooleans hx (j := (0 : Int32)) (v := (.int pa)) (by rw [e0]; exact Arq1.1) (State.isArrayOf_alike hZ.alike Arq1.2.1) Arq1.2.2 (inb_of Sq1 ⟨by decide, by decide⟩) (Has.at Hq1 (inb_of Sq1 ⟨by decide, by decide⟩) rfl) (g := (mkF m 2 #[.val (.int rr), .val (.ref b1), .val (.ref b2), .val (.ref b3), .val (.ref b4)] [(.int (0 : Int32)), (.ref b1)])) rfl rfl (hb hby d7_2) _ ?_
    show Steps p.tables e below (s₁.setTop (mkF m 3 #[.val (.int rr), .val (.ref b1), .val (.ref b2), .val (.ref b3), .val (.ref b4)] [(.int pa)])) _
    refine XS.ifNo X0.here hx rfl (hb hby d7_3) rfl ((if0 _ _).trans (feq (hfl : ¬ (pa = (0 : Int32)))).1) ?_
    refine XS.aloadN X0.here hx rfl (hb hby d7_6) rfl rfl ?_
    show Steps p.tables e below (s₁.setTop (mkF m 7 #[.val (.int rr), .val (.ref b1), .val (.ref b2), .val (.ref b3), .val (.ref b4)] [(.ref b2)])) _
    refine XS.iconst X0.here hx rfl (hb hby d7_7) ?_
    refine X0.iaload hx (j := (0 : Int32)) (v := (.int i1)) (by rw [e0]; exact Arq2.1) (State.isArrayOf_alike hZ.alike Arq2.2.1) Arq2.2.2 (inb_of Sq2 ⟨by decide, by decide⟩) (Has.at Hq2 (inb_of Sq2 ⟨by decide, by decide⟩) rfl) (g := (mkF m 8 #[.val (.int rr), .val (.ref b1), .val (.ref b2), .val (.ref b3), .val (.ref b4)] [(.int (0 : Int32)), (.ref b2)])) rfl rfl (hb hby d7_8) _ ?_
    show Steps p.tables e below (s₁.setTop (mkF m 9 #[.val (.int rr), .val (.ref b1), .val (.ref b2), .val (.ref b3), .val (.ref b4)] [(.int i1)])) _
    refine XS.iloadN X0.here hx rfl (hb hby d7_9) rfl ?_
    refine XS.icmpYes X0.here hx rfl (pc0 := 10) (pc' := 68) rfl (hb hby d7_10) rfl (teq (hre : i1 = rr)).1 (by decide) (by decide) ?_
    refine XS.iconst X0.here hx rfl (hb hby d7_68) ?_
    refine XS.goto X0.here hx rfl (pc0 := 69) (pc' := 73) rfl (hb hby d7_69) (by decide) (by decide) ?_
    show Steps p.tables e below (s₁.setTop (mkF m 73 #[.val (.int rr), .val (.ref b1), .val (.ref b2), .val (.ref b3), .val (.ref b4)] [(.int (1 : Int32))])) _
    exact retN X0 hx (t := .boolean) Bd.returns (by simp) (hb hby d7_73) hr
  · show Q_le0 Z rr b1 b2 b3 b4 g1 g2 g3 g4 pa pb i1 i2 ia ib ic r0 r1 r2 h0 n0 _ s₁.heap _
    rw [e0]
    exact ⟨rfl, N0, rfl⟩
theorem d7_13 : decode method_3_code 13 = .ok (.aload_n 1, 1) := by decide +kernel
theorem d7_14 : decode method_3_code 14 = .ok (.iconst 1, 1) := by decide +kernel
theorem d7_15 : decode method_3_code 15 = .ok (.baload, 1) := by decide +kernel
theorem d7_16 : decode method_3_code 16 = .ok (.ifCond .eq 10, 3) := by decide +kernel
theorem d7_19 : decode method_3_code 19 = .ok (.aload_n 2, 1) := by decide +kernel
theorem d7_20 : decode method_3_code 20 = .ok (.iconst 1, 1) := by decide +kernel
theorem d7_21 : decode method_3_code 21 = .ok (.iaload, 1) := by decide +kernel
theorem d7_22 : decode method_3_code 22 = .ok (.iload_n 0, 1) := by decide +kernel
theorem d7_23 : decode method_3_code 23 = .ok (.if_icmp .eq 45, 3) := by decide +kernel
def Q_le1 (Z : State) (rr : Int32) (b1 : Addr) (b2 : Addr) (b3 : Addr) (b4 : Addr) (g1 : ClassId) (g2 : ClassId) (g3 : ClassId) (g4 : ClassId) (pa : Int32) (pb : Int32) (i1 : Int32) (i2 : Int32) (ia : Int32) (ib : Int32) (ic : Int32) (r0 : Int32) (r1 : Int32) (r2 : Int32) (h0 : Heap) (n0 : Nat) (v : Option Value) (h : Heap) (L : List Loc) : Prop := v = some (.int (1 : Int32)) ∧ Fr n0 L ∧ h = h0
set_option maxRecDepth 65536 in
set_option maxHeartbeats 40000000 in
theorem le1 (l : Launch) (Z : State) (a0 : Array Value) (hw : ∀ d ∈ tables_1, d.before a0 Z = true) (ws : List Jvm.Cond) (rr : Int32) (b1 : Addr) (b2 : Addr) (b3 : Addr) (b4 : Addr) (g1 : ClassId) (g2 : ClassId) (g3 : ClassId) (g4 : ClassId) (pa : Int32) (pb : Int32) (i1 : Int32) (i2 : Int32) (ia : Int32) (ib : Int32) (ic : Int32) (r0 : Int32) (r1 : Int32) (r2 : Int32) (h0 : Heap) (n0 : Nat) (Z0 : n0 ≤ h0.size) (V_b1 : Arv Z h0 b1 g1 .boolean (2 : Int32) [(.int pa), (.int pb)] (.int (0 : Int32))) (V_b2 : Arv Z h0 b2 g2 .int (2 : Int32) [(.int i1), (.int i2)] (.int (0 : Int32))) (V_b3 : Arv Z h0 b3 g3 .boolean (3 : Int32) [(.int ia), (.int ib), (.int ic)] (.int (0 : Int32))) (V_b4 : Arv Z h0 b4 g4 .int (3 : Int32) [(.int r0), (.int r1), (.int r2)] (.int (0 : Int32))) (hm0 : ¬ (pa = (0 : Int32)) → ¬ (i1 = rr)) (hfl : ¬ (pb = (0 : Int32))) (hre : i2 = rr) :
    MetFree l (⟨"com/example/leeway/leeway/lp/SparseColumnSubtractPinLaw", "listedExpected", "(I[Z[I[Z[I)Z"⟩ : MethodName) (head1 (Jvm.Cond.code (⟨"com/example/leeway/leeway/lp/SparseColumnSubtractPinLaw", "listedExpected", "(I[Z[I[Z[I)Z"⟩ : MethodName) method_3_code 5 (some .boolean) :: ws) ({ frames := 0, cells := 0, slots := 0, locals := 0 } : Room)) (fun a U => a = #[(.int rr), (.ref b1), (.ref b2), (.ref b3), (.ref b4)] ∧ Z.Warmed39 U.vm ∧ U.heap = h0) (fun _ _ _ _ _ => True) (fun _ U o U' => ∃ v L, o = .returned v ∧ Q_le1 Z rr b1 b2 b3 b4 g1 g2 g3 g4 pa pb i1 i2 ia ib ic r0 r1 r2 h0 n0 v U'.heap L ∧ FrameEnd U o U' L ({ frames := 0, cells := 0, slots := 0, locals := 0 } : Room).cells ({ frames := 0, cells := 0, slots := 0, locals := 0 } : Room).slots) := by
  refine MetFree.of_bodySF (plainFor_of_name pn_com_example_leeway_leeway_lp_SparseColumnSubtractPinLaw) hisR ?_
  intro p e s m args below meth c s₁ Bd hml0 hP hK
  obtain ⟨rfl, hZ, hh⟩ := hP
  have hx := Bd.exec
  have hby := Bd.bytes
  have hml : c.maxLocals = 5 := hml0
  have hown : s.vm.findClass "com/example/leeway/leeway/lp/SparseColumnSubtractPinLaw" = some m.cls := findClass_of_methodNamed Bd.named
  have hnm := (name_of_methodNamed Bd.named Bd.method).1
  have X0 : Stand p l e ({ frames := 0, cells := 0, slots := 0, locals := 0 } : Room) s m #[(.int rr), (.ref b1), (.ref b2), (.ref b3), (.ref b4)] below meth c s₁ [] 0 0 := Stand.of_body Bd
  have e0 : s₁.heap = h0 := by rw [← hh, Bd.state]; rfl
  have N0 := Fr.nil n0
  have pre0 : ∀ t, Steps p.tables e below (s₁.setTop (mkF m 0 #[.val (.int rr), .val (.ref b1), .val (.ref b2), .val (.ref b3), .val (.ref b4)] [])) t → Steps p.tables e below (s₁.setTop (entryFrame m #[(.int rr), (.ref b1), (.ref b2), (.ref b3), (.ref b4)] 5)) t := fun t k => castTop (ef_7_IRRRR m rr b1 b2 b3 b4) k
  obtain ⟨cq1, Arq1, -, Sq1, -, Hq1, -⟩ := id V_b1
  obtain ⟨cq2, Arq2, -, Sq2, -, Hq2, -⟩ := id V_b2
  have jn3 : ∀ target, Steps p.tables e below (s₁.setTop (mkF m 13 #[.val (.int rr), .val (.ref b1), .val (.ref b2), .val (.ref b3), .val (.ref b4)] [])) target → Steps p.tables e below (s₁.setTop (mkF m 3 #[.val (.int rr), .val (.ref b1), .val (.ref b2), .val (.ref b3), .val (.ref b4)] [(.int pa)])) target := by
    intro target kt
    by_cases hq : pa = (0 : Int32)
    · show Steps p.tables e below (s₁.setTop (mkF m 3 #[.val (.int rr), .val (.ref b1), .val (.ref b2), .val (.ref b3), .val (.ref b4)] [(.int pa)])) _
      refine XS.ifYes X0.here hx rfl (pc0 := 3) (pc' := 13) rfl (hb hby d7_3) rfl ((if0 _ _).trans (teq hq).1) (by decide) (by decide) ?_
      show Steps p.tables e below (s₁.setTop (mkF m 13 #[.val (.int rr), .val (.ref b1), .val (.ref b2), .val (.ref b3), .val (.ref b4)] [])) _
      exact kt
    · show Steps p.tables e below (s₁.setTop (mkF m 3 #[.val (.int rr), .val (.ref b1), .val (.ref b2), .val (.ref b3), .val (.ref b4)] [(.int pa)])) _
      refine XS.ifNo X0.here hx rfl (hb hby d7_3) rfl ((if0 _ _).trans (feq hq).1) ?_
      show Steps p.tables e below (s₁.setTop (mkF m 6 #[.val (.int rr), .val (.ref b1), .val (.ref b2), .val (.ref b3), .val (.ref b4)] [])) _
      refine XS.aloadN X0.here hx rfl (hb hby d7_6) rfl rfl ?_
      refine XS.iconst X0.here hx rfl (hb hby d7_7) ?_
      refine X0.iaload hx (j := (0 : Int32)) (v := (.int i1)) (by rw [e0]; exact Arq2.1) (State.isArrayOf_alike hZ.alike Arq2.2.1) Arq2.2.2 (inb_of Sq2 ⟨by decide, by decide⟩) (Has.at Hq2 (inb_of Sq2 ⟨by decide, by decide⟩) rfl) (g := (mkF m 8 #[.val (.int rr), .val (.ref b1), .val (.ref b2), .val (.ref b3), .val (.ref b4)] [(.int (0 : Int32)), (.ref b2)])) rfl rfl (hb hby d7_8) _ ?_
      show Steps p.tables e below (s₁.setTop (mkF m 9 #[.val (.int rr), .val (.ref b1), .val (.ref b2), .val (.ref b3), .val (.ref b4)] [(.int i1)])) _
      refine XS.iloadN X0.here hx rfl (hb hby d7_9) rfl ?_
      refine XS.icmpNo X0.here hx rfl (hb hby d7_10) rfl (feq (hm0 hq : ¬ (i1 = rr))).1 ?_
      show Steps p.tables e below (s₁.setTop (mkF m 13 #[.val (.int rr), .val (.ref b1), .val (.ref b2), .val (.ref b3), .val (.ref b4)] [])) _
      exact kt
  obtain ⟨cq4, Arq4, -, Sq4, -, Hq4, -⟩ := id V_b1
  obtain ⟨cq5, Arq5, -, Sq5, -, Hq5, -⟩ := id V_b2
  obtain ⟨fs, hr, hrun, hended, hW, hsame⟩ := X0.leave (v := some (.int (1 : Int32))) (fun h => by rw [Bd.returns] at h; cases h)
  refine ⟨_, _, pre0 _ ?_, hrun, hended, _, _, rfl, ?_, ⟨_, rfl⟩, hW, hsame.mono (by decide) (by decide)⟩
  · show Steps p.tables e below (s₁.setTop (mkF m 0 #[.val (.int rr), .val (.ref b1), .val (.ref b2), .val (.ref b3), .val (.ref b4)] [])) _
    refine XS.aloadN X0.here hx rfl (hb hby d7_0) rfl rfl ?_
    refine XS.iconst X0.here hx rfl (hb hby d7_1) ?_
    refine X0.baloadBooleans hx (j := (0 : Int32)) (v := (.int pa)) (by rw [e0]; exact Arq1.1) (State.isArrayOf_alike hZ.alike Arq1.2.1) Arq1.2.2 (inb_of Sq1 ⟨by decide, by decide⟩) (Has.at Hq1 (inb_of Sq1 ⟨by decide, by decide⟩) rfl) (g := (mkF m 2 #[.val (.int rr), .val (.ref b1), .val (.ref b2), .val (.ref b3), .val (.ref b4)] [(.int (0 : Int32)), (.ref b1)])) rfl rfl (hb hby d7_2) _ ?_
    show Steps p.tables e below (s₁.setTop (mkF m 3 #[.val (.int rr), .val (.ref b1), .val (.ref b2), .val (.ref b3), .val (.ref b4)] [(.int pa)])) _
    refine jn3 _ ?_
    show Steps p.tables e below (s₁.setTop (mkF m 13 #[.val (.int rr), .val (.ref b1), .val (.ref b2), .val (.ref b3), .val (.ref b4)] [])) _
    refine XS.aloadN X0.here hx rfl (hb hby d7_13) rfl rfl ?_
    refine XS.iconst X0.here hx rfl (hb hby d7_14) ?_
    refine X0.baloadBooleans hx (j := (1 : Int32)) (v := (.int pb)) (by rw [e0]; exact Arq4.1) (State.isArrayOf_alike hZ.alike Arq4.2.1) Arq4.2.2 (inb_of Sq4 ⟨by decide, by decide⟩) (Has.at Hq4 (inb_of Sq4 ⟨by decide, by decide⟩) rfl) (g := (mkF m 15 #[.val (.int rr), .val (.ref b1), .val (.ref b2), .val (.ref b3), .val (.ref b4)] [(.int (1 : Int32)), (.ref b1)])) rfl rfl (hb hby d7_15) _ ?_
    show Steps p.tables e below (s₁.setTop (mkF m 16 #[.val (.int rr), .val (.ref b1), .val (.ref b2), .val (.ref b3), .val (.ref b4)] [(.int pb)])) _
    refine XS.ifNo X0.here hx rfl (hb hby d7_16) rfl ((if0 _ _).trans (feq (hfl : ¬ (pb = (0 : Int32)))).1) ?_
    refine XS.aloadN X0.here hx rfl (hb hby d7_19) rfl rfl ?_
    refine XS.iconst X0.here hx rfl (hb hby d7_20) ?_
    show Steps p.tables e below (s₁.setTop (mkF m 21 #[.val (.int rr), .val (.ref b1), .val (.ref b2), .val (.ref b3), .val (.ref b4)] [(.int (1 : Int32)), (.ref b2)])) _
    refine X0.iaload hx (j := (1 : Int32)) (v := (.int i2)) (by rw [e0]; exact Arq5.1) (State.isArrayOf_alike hZ.alike Arq5.2.1) Arq5.2.2 (inb_of Sq5 ⟨by decide, by decide⟩) (Has.at Hq5 (inb_of Sq5 ⟨by decide, by decide⟩) rfl) (g := (mkF m 21 #[.val (.int rr), .val (.ref b1), .val (.ref b2), .val (.ref b3), .val (.ref b4)] [(.int (1 : Int32)), (.ref b2)])) rfl rfl (hb hby d7_21) _ ?_
    show Steps p.tables e below (s₁.setTop (mkF m 22 #[.val (.int rr), .val (.ref b1), .val (.ref b2), .val (.ref b3), .val (.ref b4)] [(.int i2)])) _
    refine XS.iloadN X0.here hx rfl (hb hby d7_22) rfl ?_
    refine XS.icmpYes X0.here hx rfl (pc0 := 23) (pc' := 68) rfl (hb hby d7_23) rfl (teq (hre : i2 = rr)).1 (by decide) (by decide) ?_
    refine XS.iconst X0.here hx rfl (hb hby d7_68) ?_
    refine XS.goto X0.here hx rfl (pc0 := 69) (pc' := 73) rfl (hb hby d7_69) (by decide) (by decide) ?_
    exact retN X0 hx (t := .boolean) Bd.returns (by simp) (hb hby d7_73) hr
  · show Q_le1 Z rr b1 b2 b3 b4 g1 g2 g3 g4 pa pb i1 i2 ia ib ic r0 r1 r2 h0 n0 _ s₁.heap _
    rw [e0]
    exact ⟨rfl, N0, rfl⟩
theorem d7_26 : decode method_3_code 26 = .ok (.aload_n 3, 1) := by decide +kernel
theorem d7_27 : decode method_3_code 27 = .ok (.iconst 0, 1) := by decide +kernel
theorem d7_28 : decode method_3_code 28 = .ok (.baload, 1) := by decide +kernel
theorem d7_29 : decode method_3_code 29 = .ok (.ifCond .eq 11, 3) := by decide +kernel
theorem d7_32 : decode method_3_code 32 = .ok (.aload 4, 2) := by decide +kernel
theorem d7_34 : decode method_3_code 34 = .ok (.iconst 0, 1) := by decide +kernel
theorem d7_35 : decode method_3_code 35 = .ok (.iaload, 1) := by decide +kernel
theorem d7_36 : decode method_3_code 36 = .ok (.iload_n 0, 1) := by decide +kernel
theorem d7_37 : decode method_3_code 37 = .ok (.if_icmp .eq 31, 3) := by decide +kernel
def Q_le2 (Z : State) (rr : Int32) (b1 : Addr) (b2 : Addr) (b3 : Addr) (b4 : Addr) (g1 : ClassId) (g2 : ClassId) (g3 : ClassId) (g4 : ClassId) (pa : Int32) (pb : Int32) (i1 : Int32) (i2 : Int32) (ia : Int32) (ib : Int32) (ic : Int32) (r0 : Int32) (r1 : Int32) (r2 : Int32) (h0 : Heap) (n0 : Nat) (v : Option Value) (h : Heap) (L : List Loc) : Prop := v = some (.int (1 : Int32)) ∧ Fr n0 L ∧ h = h0
set_option maxRecDepth 65536 in
set_option maxHeartbeats 40000000 in
theorem le2 (l : Launch) (Z : State) (a0 : Array Value) (hw : ∀ d ∈ tables_1, d.before a0 Z = true) (ws : List Jvm.Cond) (rr : Int32) (b1 : Addr) (b2 : Addr) (b3 : Addr) (b4 : Addr) (g1 : ClassId) (g2 : ClassId) (g3 : ClassId) (g4 : ClassId) (pa : Int32) (pb : Int32) (i1 : Int32) (i2 : Int32) (ia : Int32) (ib : Int32) (ic : Int32) (r0 : Int32) (r1 : Int32) (r2 : Int32) (h0 : Heap) (n0 : Nat) (Z0 : n0 ≤ h0.size) (V_b1 : Arv Z h0 b1 g1 .boolean (2 : Int32) [(.int pa), (.int pb)] (.int (0 : Int32))) (V_b2 : Arv Z h0 b2 g2 .int (2 : Int32) [(.int i1), (.int i2)] (.int (0 : Int32))) (V_b3 : Arv Z h0 b3 g3 .boolean (3 : Int32) [(.int ia), (.int ib), (.int ic)] (.int (0 : Int32))) (V_b4 : Arv Z h0 b4 g4 .int (3 : Int32) [(.int r0), (.int r1), (.int r2)] (.int (0 : Int32))) (hm0 : ¬ (pa = (0 : Int32)) → ¬ (i1 = rr)) (hm1 : ¬ (pb = (0 : Int32)) → ¬ (i2 = rr)) (hfl : ¬ (ia = (0 : Int32))) (hre : r0 = rr) :
    MetFree l (⟨"com/example/leeway/leeway/lp/SparseColumnSubtractPinLaw", "listedExpected", "(I[Z[I[Z[I)Z"⟩ : MethodName) (head1 (Jvm.Cond.code (⟨"com/example/leeway/leeway/lp/SparseColumnSubtractPinLaw", "listedExpected", "(I[Z[I[Z[I)Z"⟩ : MethodName) method_3_code 5 (some .boolean) :: ws) ({ frames := 0, cells := 0, slots := 0, locals := 0 } : Room)) (fun a U => a = #[(.int rr), (.ref b1), (.ref b2), (.ref b3), (.ref b4)] ∧ Z.Warmed39 U.vm ∧ U.heap = h0) (fun _ _ _ _ _ => True) (fun _ U o U' => ∃ v L, o = .returned v ∧ Q_le2 Z rr b1 b2 b3 b4 g1 g2 g3 g4 pa pb i1 i2 ia ib ic r0 r1 r2 h0 n0 v U'.heap L ∧ FrameEnd U o U' L ({ frames := 0, cells := 0, slots := 0, locals := 0 } : Room).cells ({ frames := 0, cells := 0, slots := 0, locals := 0 } : Room).slots) := by
  refine MetFree.of_bodySF (plainFor_of_name pn_com_example_leeway_leeway_lp_SparseColumnSubtractPinLaw) hisR ?_
  intro p e s m args below meth c s₁ Bd hml0 hP hK
  obtain ⟨rfl, hZ, hh⟩ := hP
  have hx := Bd.exec
  have hby := Bd.bytes
  have hml : c.maxLocals = 5 := hml0
  have hown : s.vm.findClass "com/example/leeway/leeway/lp/SparseColumnSubtractPinLaw" = some m.cls := findClass_of_methodNamed Bd.named
  have hnm := (name_of_methodNamed Bd.named Bd.method).1
  have X0 : Stand p l e ({ frames := 0, cells := 0, slots := 0, locals := 0 } : Room) s m #[(.int rr), (.ref b1), (.ref b2), (.ref b3), (.ref b4)] below meth c s₁ [] 0 0 := Stand.of_body Bd
  have e0 : s₁.heap = h0 := by rw [← hh, Bd.state]; rfl
  have N0 := Fr.nil n0
  have pre0 : ∀ t, Steps p.tables e below (s₁.setTop (mkF m 0 #[.val (.int rr), .val (.ref b1), .val (.ref b2), .val (.ref b3), .val (.ref b4)] [])) t → Steps p.tables e below (s₁.setTop (entryFrame m #[(.int rr), (.ref b1), (.ref b2), (.ref b3), (.ref b4)] 5)) t := fun t k => castTop (ef_7_IRRRR m rr b1 b2 b3 b4) k
  obtain ⟨cq1, Arq1, -, Sq1, -, Hq1, -⟩ := id V_b1
  obtain ⟨cq2, Arq2, -, Sq2, -, Hq2, -⟩ := id V_b2
  have jn3 : ∀ target, Steps p.tables e below (s₁.setTop (mkF m 13 #[.val (.int rr), .val (.ref b1), .val (.ref b2), .val (.ref b3), .val (.ref b4)] [])) target → Steps p.tables e below (s₁.setTop (mkF m 3 #[.val (.int rr), .val (.ref b1), .val (.ref b2), .val (.ref b3), .val (.ref b4)] [(.int pa)])) target := by
    intro target kt
    by_cases hq : pa = (0 : Int32)
    · show Steps p.tables e below (s₁.setTop (mkF m 3 #[.val (.int rr), .val (.ref b1), .val (.ref b2), .val (.ref b3), .val (.ref b4)] [(.int pa)])) _
      refine XS.ifYes X0.here hx rfl (pc0 := 3) (pc' := 13) rfl (hb hby d7_3) rfl ((if0 _ _).trans (teq hq).1) (by decide) (by decide) ?_
      show Steps p.tables e below (s₁.setTop (mkF m 13 #[.val (.int rr), .val (.ref b1), .val (.ref b2), .val (.ref b3), .val (.ref b4)] [])) _
      exact kt
    · show Steps p.tables e below (s₁.setTop (mkF m 3 #[.val (.int rr), .val (.ref b1), .val (.ref b2), .val (.ref b3), .val (.ref b4)] [(.int pa)])) _
      refine XS.ifNo X0.here hx rfl (hb hby d7_3) rfl ((if0 _ _).trans (feq hq).1) ?_
      show Steps p.tables e below (s₁.setTop (mkF m 6 #[.val (.int rr), .val (.ref b1), .val (.ref b2), .val (.ref b3), .val (.ref b4)] [])) _
      refine XS.aloadN X0.here hx rfl (hb hby d7_6) rfl rfl ?_
      refine XS.iconst X0.here hx rfl (hb hby d7_7) ?_
      refine X0.iaload hx (j := (0 : Int32)) (v := (.int i1)) (by rw [e0]; exact Arq2.1) (State.isArrayOf_alike hZ.alike Arq2.2.1) Arq2.2.2 (inb_of Sq2 ⟨by decide, by decide⟩) (Has.at Hq2 (inb_of Sq2 ⟨by decide, by decide⟩) rfl) (g := (mkF m 8 #[.val (.int rr), .val (.ref b1), .val (.ref b2), .val (.ref b3), .val (.ref b4)] [(.int (0 : Int32)), (.ref b2)])) rfl rfl (hb hby d7_8) _ ?_
      show Steps p.tables e below (s₁.setTop (mkF m 9 #[.val (.int rr), .val (.ref b1), .val (.ref b2), .val (.ref b3), .val (.ref b4)] [(.int i1)])) _
      refine XS.iloadN X0.here hx rfl (hb hby d7_9) rfl ?_
      refine XS.icmpNo X0.here hx rfl (hb hby d7_10) rfl (feq (hm0 hq : ¬ (i1 = rr))).1 ?_
      show Steps p.tables e below (s₁.setTop (mkF m 13 #[.val (.int rr), .val (.ref b1), .val (.ref b2), .val (.ref b3), .val (.ref b4)] [])) _
      exact kt
  obtain ⟨cq4, Arq4, -, Sq4, -, Hq4, -⟩ := id V_b1
  obtain ⟨cq5, Arq5, -, Sq5, -, Hq5, -⟩ := id V_b2
  have jn6 : ∀ target, Steps p.tables e below (s₁.setTop (mkF m 26 #[.val (.int rr), .val (.ref b1), .val (.ref b2), .val (.ref b3), .val (.ref b4)] [])) target → Steps p.tables e below (s₁.setTop (mkF m 16 #[.val (.int rr), .val (.ref b1), .val (.ref b2), .val (.ref b3), .val (.ref b4)] [(.int pb)])) target := by
    intro target kt
    by_cases hq : pb = (0 : Int32)
    · show Steps p.tables e below (s₁.setTop (mkF m 16 #[.val (.int rr), .val (.ref b1), .val (.ref b2), .val (.ref b3), .val (.ref b4)] [(.int pb)])) _
      refine XS.ifYes X0.here hx rfl (pc0 := 16) (pc' := 26) rfl (hb hby d7_16) rfl ((if0 _ _).trans (teq hq).1) (by decide) (by decide) ?_
      show Steps p.tables e below (s₁.setTop (mkF m 26 #[.val (.int rr), .val (.ref b1), .val (.ref b2), .val (.ref b3), .val (.ref b4)] [])) _
      exact kt
    · show Steps p.tables e below (s₁.setTop (mkF m 16 #[.val (.int rr), .val (.ref b1), .val (.ref b2), .val (.ref b3), .val (.ref b4)] [(.int pb)])) _
      refine XS.ifNo X0.here hx rfl (hb hby d7_16) rfl ((if0 _ _).trans (feq hq).1) ?_
      refine XS.aloadN X0.here hx rfl (hb hby d7_19) rfl rfl ?_
      show Steps p.tables e below (s₁.setTop (mkF m 20 #[.val (.int rr), .val (.ref b1), .val (.ref b2), .val (.ref b3), .val (.ref b4)] [(.ref b2)])) _
      refine XS.iconst X0.here hx rfl (hb hby d7_20) ?_
      refine X0.iaload hx (j := (1 : Int32)) (v := (.int i2)) (by rw [e0]; exact Arq5.1) (State.isArrayOf_alike hZ.alike Arq5.2.1) Arq5.2.2 (inb_of Sq5 ⟨by decide, by decide⟩) (Has.at Hq5 (inb_of Sq5 ⟨by decide, by decide⟩) rfl) (g := (mkF m 21 #[.val (.int rr), .val (.ref b1), .val (.ref b2), .val (.ref b3), .val (.ref b4)] [(.int (1 : Int32)), (.ref b2)])) rfl rfl (hb hby d7_21) _ ?_
      show Steps p.tables e below (s₁.setTop (mkF m 22 #[.val (.int rr), .val (.ref b1), .val (.ref b2), .val (.ref b3), .val (.ref b4)] [(.int i2)])) _
      refine XS.iloadN X0.here hx rfl (hb hby d7_22) rfl ?_
      refine XS.icmpNo X0.here hx rfl (hb hby d7_23) rfl (feq (hm1 hq : ¬ (i2 = rr))).1 ?_
      show Steps p.tables e below (s₁.setTop (mkF m 26 #[.val (.int rr), .val (.ref b1), .val (.ref b2), .val (.ref b3), .val (.ref b4)] [])) _
      exact kt
  obtain ⟨cq7, Arq7, -, Sq7, -, Hq7, -⟩ := id V_b3
  obtain ⟨cq8, Arq8, -, Sq8, -, Hq8, -⟩ := id V_b4
  obtain ⟨fs, hr, hrun, hended, hW, hsame⟩ := X0.leave (v := some (.int (1 : Int32))) (fun h => by rw [Bd.returns] at h; cases h)
  refine ⟨_, _, pre0 _ ?_, hrun, hended, _, _, rfl, ?_, ⟨_, rfl⟩, hW, hsame.mono (by decide) (by decide)⟩
  · show Steps p.tables e below (s₁.setTop (mkF m 0 #[.val (.int rr), .val (.ref b1), .val (.ref b2), .val (.ref b3), .val (.ref b4)] [])) _
    refine XS.aloadN X0.here hx rfl (hb hby d7_0) rfl rfl ?_
    refine XS.iconst X0.here hx rfl (hb hby d7_1) ?_
    refine X0.baloadBooleans hx (j := (0 : Int32)) (v := (.int pa)) (by rw [e0]; exact Arq1.1) (State.isArrayOf_alike hZ.alike Arq1.2.1) Arq1.2.2 (inb_of Sq1 ⟨by decide, by decide⟩) (Has.at Hq1 (inb_of Sq1 ⟨by decide, by decide⟩) rfl) (g := (mkF m 2 #[.val (.int rr), .val (.ref b1), .val (.ref b2), .val (.ref b3), .val (.ref b4)] [(.int (0 : Int32)), (.ref b1)])) rfl rfl (hb hby d7_2) _ ?_
    show Steps p.tables e below (s₁.setTop (mkF m 3 #[.val (.int rr), .val (.ref b1), .val (.ref b2), .val (.ref b3), .val (.ref b4)] [(.int pa)])) _
    refine jn3 _ ?_
    show Steps p.tables e below (s₁.setTop (mkF m 13 #[.val (.int rr), .val (.ref b1), .val (.ref b2), .val (.ref b3), .val (.ref b4)] [])) _
    refine XS.aloadN X0.here hx rfl (hb hby d7_13) rfl rfl ?_
    refine XS.iconst X0.here hx rfl (hb hby d7_14) ?_
    refine X0.baloadBooleans hx (j := (1 : Int32)) (v := (.int pb)) (by rw [e0]; exact Arq4.1) (State.isArrayOf_alike hZ.alike Arq4.2.1) Arq4.2.2 (inb_of Sq4 ⟨by decide, by decide⟩) (Has.at Hq4 (inb_of Sq4 ⟨by decide, by decide⟩) rfl) (g := (mkF m 15 #[.val (.int rr), .val (.ref b1), .val (.ref b2), .val (.ref b3), .val (.ref b4)] [(.int (1 : Int32)), (.ref b1)])) rfl rfl (hb hby d7_15) _ ?_
    show Steps p.tables e below (s₁.setTop (mkF m 16 #[.val (.int rr), .val (.ref b1), .val (.ref b2), .val (.ref b3), .val (.ref b4)] [(.int pb)])) _
    refine jn6 _ ?_
    show Steps p.tables e below (s₁.setTop (mkF m 26 #[.val (.int rr), .val (.ref b1), .val (.ref b2), .val (.ref b3), .val (.ref b4)] [])) _
    refine XS.aloadN X0.here hx rfl (hb hby d7_26) rfl rfl ?_
    show Steps p.tables e below (s₁.setTop (mkF m 27 #[.val (.int rr), .val (.ref b1), .val (.ref b2), .val (.ref b3), .val (.ref b4)] [(.ref b3)])) _
    refine XS.iconst X0.here hx rfl (hb hby d7_27) ?_
    refine X0.baloadBooleans hx (j := (0 : Int32)) (v := (.int ia)) (by rw [e0]; exact Arq7.1) (State.isArrayOf_alike hZ.alike Arq7.2.1) Arq7.2.2 (inb_of Sq7 ⟨by decide, by decide⟩) (Has.at Hq7 (inb_of Sq7 ⟨by decide, by decide⟩) rfl) (g := (mkF m 28 #[.val (.int rr), .val (.ref b1), .val (.ref b2), .val (.ref b3), .val (.ref b4)] [(.int (0 : Int32)), (.ref b3)])) rfl rfl (hb hby d7_28) _ ?_
    show Steps p.tables e below (s₁.setTop (mkF m 29 #[.val (.int rr), .val (.ref b1), .val (.ref b2), .val (.ref b3), .val (.ref b4)] [(.int ia)])) _
    refine XS.ifNo X0.here hx rfl (hb hby d7_29) rfl ((if0 _ _).trans (feq (hfl : ¬ (ia = (0 : Int32)))).1) ?_
    refine XS.aload X0.here hx rfl (hb hby d7_32) rfl rfl ?_
    refine XS.iconst X0.here hx rfl (hb hby d7_34) ?_
    refine X0.iaload hx (j := (0 : Int32)) (v := (.int r0)) (by rw [e0]; exact Arq8.1) (State.isArrayOf_alike hZ.alike Arq8.2.1) Arq8.2.2 (inb_of Sq8 ⟨by decide, by decide⟩) (Has.at Hq8 (inb_of Sq8 ⟨by decide, by decide⟩) rfl) (g := (mkF m 35 #[.val (.int rr), .val (.ref b1), .val (.ref b2), .val (.ref b3), .val (.ref b4)] [(.int (0 : Int32)), (.ref b4)])) rfl rfl (hb hby d7_35) _ ?_
    show Steps p.tables e below (s₁.setTop (mkF m 36 #[.val (.int rr), .val (.ref b1), .val (.ref b2), .val (.ref b3), .val (.ref b4)] [(.int r0)])) _
    refine XS.iloadN X0.here hx rfl (hb hby d7_36) rfl ?_
    refine XS.icmpYes X0.here hx rfl (pc0 := 37) (pc' := 68) rfl (hb hby d7_37) rfl (teq (hre : r0 = rr)).1 (by decide) (by decide) ?_
    refine XS.iconst X0.here hx rfl (hb hby d7_68) ?_
    refine XS.goto X0.here hx rfl (pc0 := 69) (pc' := 73) rfl (hb hby d7_69) (by decide) (by decide) ?_
    exact retN X0 hx (t := .boolean) Bd.returns (by simp) (hb hby d7_73) hr
  · show Q_le2 Z rr b1 b2 b3 b4 g1 g2 g3 g4 pa pb i1 i2 ia ib ic r0 r1 r2 h0 n0 _ s₁.heap _
    rw [e0]
    exact ⟨rfl, N0, rfl⟩
theorem d7_40 : decode method_3_code 40 = .ok (.aload_n 3, 1) := by decide +kernel
theorem d7_41 : decode method_3_code 41 = .ok (.iconst 1, 1) := by decide +kernel
theorem d7_42 : decode method_3_code 42 = .ok (.baload, 1) := by decide +kernel
theorem d7_43 : decode method_3_code 43 = .ok (.ifCond .eq 11, 3) := by decide +kernel
theorem d7_46 : decode method_3_code 46 = .ok (.aload 4, 2) := by decide +kernel
theorem d7_48 : decode method_3_code 48 = .ok (.iconst 1, 1) := by decide +kernel
theorem d7_49 : decode method_3_code 49 = .ok (.iaload, 1) := by decide +kernel
theorem d7_50 : decode method_3_code 50 = .ok (.iload_n 0, 1) := by decide +kernel
theorem d7_51 : decode method_3_code 51 = .ok (.if_icmp .eq 17, 3) := by decide +kernel
def Q_le3 (Z : State) (rr : Int32) (b1 : Addr) (b2 : Addr) (b3 : Addr) (b4 : Addr) (g1 : ClassId) (g2 : ClassId) (g3 : ClassId) (g4 : ClassId) (pa : Int32) (pb : Int32) (i1 : Int32) (i2 : Int32) (ia : Int32) (ib : Int32) (ic : Int32) (r0 : Int32) (r1 : Int32) (r2 : Int32) (h0 : Heap) (n0 : Nat) (v : Option Value) (h : Heap) (L : List Loc) : Prop := v = some (.int (1 : Int32)) ∧ Fr n0 L ∧ h = h0
set_option maxRecDepth 65536 in
set_option maxHeartbeats 40000000 in
theorem le3 (l : Launch) (Z : State) (a0 : Array Value) (hw : ∀ d ∈ tables_1, d.before a0 Z = true) (ws : List Jvm.Cond) (rr : Int32) (b1 : Addr) (b2 : Addr) (b3 : Addr) (b4 : Addr) (g1 : ClassId) (g2 : ClassId) (g3 : ClassId) (g4 : ClassId) (pa : Int32) (pb : Int32) (i1 : Int32) (i2 : Int32) (ia : Int32) (ib : Int32) (ic : Int32) (r0 : Int32) (r1 : Int32) (r2 : Int32) (h0 : Heap) (n0 : Nat) (Z0 : n0 ≤ h0.size) (V_b1 : Arv Z h0 b1 g1 .boolean (2 : Int32) [(.int pa), (.int pb)] (.int (0 : Int32))) (V_b2 : Arv Z h0 b2 g2 .int (2 : Int32) [(.int i1), (.int i2)] (.int (0 : Int32))) (V_b3 : Arv Z h0 b3 g3 .boolean (3 : Int32) [(.int ia), (.int ib), (.int ic)] (.int (0 : Int32))) (V_b4 : Arv Z h0 b4 g4 .int (3 : Int32) [(.int r0), (.int r1), (.int r2)] (.int (0 : Int32))) (hm0 : ¬ (pa = (0 : Int32)) → ¬ (i1 = rr)) (hm1 : ¬ (pb = (0 : Int32)) → ¬ (i2 = rr)) (hm2 : ¬ (ia = (0 : Int32)) → ¬ (r0 = rr)) (hfl : ¬ (ib = (0 : Int32))) (hre : r1 = rr) :
    MetFree l (⟨"com/example/leeway/leeway/lp/SparseColumnSubtractPinLaw", "listedExpected", "(I[Z[I[Z[I)Z"⟩ : MethodName) (head1 (Jvm.Cond.code (⟨"com/example/leeway/leeway/lp/SparseColumnSubtractPinLaw", "listedExpected", "(I[Z[I[Z[I)Z"⟩ : MethodName) method_3_code 5 (some .boolean) :: ws) ({ frames := 0, cells := 0, slots := 0, locals := 0 } : Room)) (fun a U => a = #[(.int rr), (.ref b1), (.ref b2), (.ref b3), (.ref b4)] ∧ Z.Warmed39 U.vm ∧ U.heap = h0) (fun _ _ _ _ _ => True) (fun _ U o U' => ∃ v L, o = .returned v ∧ Q_le3 Z rr b1 b2 b3 b4 g1 g2 g3 g4 pa pb i1 i2 ia ib ic r0 r1 r2 h0 n0 v U'.heap L ∧ FrameEnd U o U' L ({ frames := 0, cells := 0, slots := 0, locals := 0 } : Room).cells ({ frames := 0, cells := 0, slots := 0, locals := 0 } : Room).slots) := by
  refine MetFree.of_bodySF (plainFor_of_name pn_com_example_leeway_leeway_lp_SparseColumnSubtractPinLaw) hisR ?_
  intro p e s m args below meth c s₁ Bd hml0 hP hK
  obtain ⟨rfl, hZ, hh⟩ := hP
  have hx := Bd.exec
  have hby := Bd.bytes
  have hml : c.maxLocals = 5 := hml0
  have hown : s.vm.findClass "com/example/leeway/leeway/lp/SparseColumnSubtractPinLaw" = some m.cls := findClass_of_methodNamed Bd.named
  have hnm := (name_of_methodNamed Bd.named Bd.method).1
  have X0 : Stand p l e ({ frames := 0, cells := 0, slots := 0, locals := 0 } : Room) s m #[(.int rr), (.ref b1), (.ref b2), (.ref b3), (.ref b4)] below meth c s₁ [] 0 0 := Stand.of_body Bd
  have e0 : s₁.heap = h0 := by rw [← hh, Bd.state]; rfl
  have N0 := Fr.nil n0
  have pre0 : ∀ t, Steps p.tables e below (s₁.setTop (mkF m 0 #[.val (.int rr), .val (.ref b1), .val (.ref b2), .val (.ref b3), .val (.ref b4)] [])) t → Steps p.tables e below (s₁.setTop (entryFrame m #[(.int rr), (.ref b1), (.ref b2), (.ref b3), (.ref b4)] 5)) t := fun t k => castTop (ef_7_IRRRR m rr b1 b2 b3 b4) k
  obtain ⟨cq1, Arq1, -, Sq1, -, Hq1, -⟩ := id V_b1
  obtain ⟨cq2, Arq2, -, Sq2, -, Hq2, -⟩ := id V_b2
  have jn3 : ∀ target, Steps p.tables e below (s₁.setTop (mkF m 13 #[.val (.int rr), .val (.ref b1), .val (.ref b2), .val (.ref b3), .val (.ref b4)] [])) target → Steps p.tables e below (s₁.setTop (mkF m 3 #[.val (.int rr), .val (.ref b1), .val (.ref b2), .val (.ref b3), .val (.ref b4)] [(.int pa)])) target := by
    intro target kt
    by_cases hq : pa = (0 : Int32)
    · show Steps p.tables e below (s₁.setTop (mkF m 3 #[.val (.int rr), .val (.ref b1), .val (.ref b2), .val (.ref b3), .val (.ref b4)] [(.int pa)])) _
      refine XS.ifYes X0.here hx rfl (pc0 := 3) (pc' := 13) rfl (hb hby d7_3) rfl ((if0 _ _).trans (teq hq).1) (by decide) (by decide) ?_
      show Steps p.tables e below (s₁.setTop (mkF m 13 #[.val (.int rr), .val (.ref b1), .val (.ref b2), .val (.ref b3), .val (.ref b4)] [])) _
      exact kt
    · show Steps p.tables e below (s₁.setTop (mkF m 3 #[.val (.int rr), .val (.ref b1), .val (.ref b2), .val (.ref b3), .val (.ref b4)] [(.int pa)])) _
      refine XS.ifNo X0.here hx rfl (hb hby d7_3) rfl ((if0 _ _).trans (feq hq).1) ?_
      show Steps p.tables e below (s₁.setTop (mkF m 6 #[.val (.int rr), .val (.ref b1), .val (.ref b2), .val (.ref b3), .val (.ref b4)] [])) _
      refine XS.aloadN X0.here hx rfl (hb hby d7_6) rfl rfl ?_
      refine XS.iconst X0.here hx rfl (hb hby d7_7) ?_
      refine X0.iaload hx (j := (0 : Int32)) (v := (.int i1)) (by rw [e0]; exact Arq2.1) (State.isArrayOf_alike hZ.alike Arq2.2.1) Arq2.2.2 (inb_of Sq2 ⟨by decide, by decide⟩) (Has.at Hq2 (inb_of Sq2 ⟨by decide, by decide⟩) rfl) (g := (mkF m 8 #[.val (.int rr), .val (.ref b1), .val (.ref b2), .val (.ref b3), .val (.ref b4)] [(.int (0 : Int32)), (.ref b2)])) rfl rfl (hb hby d7_8) _ ?_
      show Steps p.tables e below (s₁.setTop (mkF m 9 #[.val (.int rr), .val (.ref b1), .val (.ref b2), .val (.ref b3), .val (.ref b4)] [(.int i1)])) _
      refine XS.iloadN X0.here hx rfl (hb hby d7_9) rfl ?_
      refine XS.icmpNo X0.here hx rfl (hb hby d7_10) rfl (feq (hm0 hq : ¬ (i1 = rr))).1 ?_
      show Steps p.tables e below (s₁.setTop (mkF m 13 #[.val (.int rr), .val (.ref b1), .val (.ref b2), .val (.ref b3), .val (.ref b4)] [])) _
      exact kt
  obtain ⟨cq4, Arq4, -, Sq4, -, Hq4, -⟩ := id V_b1
  obtain ⟨cq5, Arq5, -, Sq5, -, Hq5, -⟩ := id V_b2
  have jn6 : ∀ target, Steps p.tables e below (s₁.setTop (mkF m 26 #[.val (.int rr), .val (.ref b1), .val (.ref b2), .val (.ref b3), .val (.ref b4)] [])) target → Steps p.tables e below (s₁.setTop (mkF m 16 #[.val (.int rr), .val (.ref b1), .val (.ref b2), .val (.ref b3), .val (.ref b4)] [(.int pb)])) target := by
    intro target kt
    by_cases hq : pb = (0 : Int32)
    · show Steps p.tables e below (s₁.setTop (mkF m 16 #[.val (.int rr), .val (.ref b1), .val (.ref b2), .val (.ref b3), .val (.ref b4)] [(.int pb)])) _
      refine XS.ifYes X0.here hx rfl (pc0 := 16) (pc' := 26) rfl (hb hby d7_16) rfl ((if0 _ _).trans (teq hq).1) (by decide) (by decide) ?_
      show Steps p.tables e below (s₁.setTop (mkF m 26 #[.val (.int rr), .val (.ref b1), .val (.ref b2), .val (.ref b3), .val (.ref b4)] [])) _
      exact kt
    · show Steps p.tables e below (s₁.setTop (mkF m 16 #[.val (.int rr), .val (.ref b1), .val (.ref b2), .val (.ref b3), .val (.ref b4)] [(.int pb)])) _
      refine XS.ifNo X0.here hx rfl (hb hby d7_16) rfl ((if0 _ _).trans (feq hq).1) ?_
      refine XS.aloadN X0.here hx rfl (hb hby d7_19) rfl rfl ?_
      show Steps p.tables e below (s₁.setTop (mkF m 20 #[.val (.int rr), .val (.ref b1), .val (.ref b2), .val (.ref b3), .val (.ref b4)] [(.ref b2)])) _
      refine XS.iconst X0.here hx rfl (hb hby d7_20) ?_
      refine X0.iaload hx (j := (1 : Int32)) (v := (.int i2)) (by rw [e0]; exact Arq5.1) (State.isArrayOf_alike hZ.alike Arq5.2.1) Arq5.2.2 (inb_of Sq5 ⟨by decide, by decide⟩) (Has.at Hq5 (inb_of Sq5 ⟨by decide, by decide⟩) rfl) (g := (mkF m 21 #[.val (.int rr), .val (.ref b1), .val (.ref b2), .val (.ref b3), .val (.ref b4)] [(.int (1 : Int32)), (.ref b2)])) rfl rfl (hb hby d7_21) _ ?_
      show Steps p.tables e below (s₁.setTop (mkF m 22 #[.val (.int rr), .val (.ref b1), .val (.ref b2), .val (.ref b3), .val (.ref b4)] [(.int i2)])) _
      refine XS.iloadN X0.here hx rfl (hb hby d7_22) rfl ?_
      refine XS.icmpNo X0.here hx rfl (hb hby d7_23) rfl (feq (hm1 hq : ¬ (i2 = rr))).1 ?_
      show Steps p.tables e below (s₁.setTop (mkF m 26 #[.val (.int rr), .val (.ref b1), .val (.ref b2), .val (.ref b3), .val (.ref b4)] [])) _
      exact kt
  obtain ⟨cq7, Arq7, -, Sq7, -, Hq7, -⟩ := id V_b3
  obtain ⟨cq8, Arq8, -, Sq8, -, Hq8, -⟩ := id V_b4
  have jn9 : ∀ target, Steps p.tables e below (s₁.setTop (mkF m 40 #[.val (.int rr), .val (.ref b1), .val (.ref b2), .val (.ref b3), .val (.ref b4)] [])) target → Steps p.tables e below (s₁.setTop (mkF m 29 #[.val (.int rr), .val (.ref b1), .val (.ref b2), .val (.ref b3), .val (.ref b4)] [(.int ia)])) target := by
    intro target kt
    by_cases hq : ia = (0 : Int32)
    · show Steps p.tables e below (s₁.setTop (mkF m 29 #[.val (.int rr), .val (.ref b1), .val (.ref b2), .val (.ref b3), .val (.ref b4)] [(.int ia)])) _
      refine XS.ifYes X0.here hx rfl (pc0 := 29) (pc' := 40) rfl (hb hby d7_29) rfl ((if0 _ _).trans (teq hq).1) (by decide) (by decide) ?_
      show Steps p.tables e below (s₁.setTop (mkF m 40 #[.val (.int rr), .val (.ref b1), .val (.ref b2), .val (.ref b3), .val (.ref b4)] [])) _
      exact kt
    · show Steps p.tables e below (s₁.setTop (mkF m 29 #[.val (.int rr), .val (.ref b1), .val (.ref b2), .val (.ref b3), .val (.ref b4)] [(.int ia)])) _
      refine XS.ifNo X0.here hx rfl (hb hby d7_29) rfl ((if0 _ _).trans (feq hq).1) ?_
      refine XS.aload X0.here hx rfl (hb hby d7_32) rfl rfl ?_
      refine XS.iconst X0.here hx rfl (hb hby d7_34) ?_
      show Steps p.tables e below (s₁.setTop (mkF m 35 #[.val (.int rr), .val (.ref b1), .val (.ref b2), .val (.ref b3), .val (.ref b4)] [(.int (0 : Int32)), (.ref b4)])) _
      refine X0.iaload hx (j := (0 : Int32)) (v := (.int r0)) (by rw [e0]; exact Arq8.1) (State.isArrayOf_alike hZ.alike Arq8.2.1) Arq8.2.2 (inb_of Sq8 ⟨by decide, by decide⟩) (Has.at Hq8 (inb_of Sq8 ⟨by decide, by decide⟩) rfl) (g := (mkF m 35 #[.val (.int rr), .val (.ref b1), .val (.ref b2), .val (.ref b3), .val (.ref b4)] [(.int (0 : Int32)), (.ref b4)])) rfl rfl (hb hby d7_35) _ ?_
      show Steps p.tables e below (s₁.setTop (mkF m 36 #[.val (.int rr), .val (.ref b1), .val (.ref b2), .val (.ref b3), .val (.ref b4)] [(.int r0)])) _
      refine XS.iloadN X0.here hx rfl (hb hby d7_36) rfl ?_
      refine XS.icmpNo X0.here hx rfl (hb hby d7_37) rfl (feq (hm2 hq : ¬ (r0 = rr))).1 ?_
      show Steps p.tables e below (s₁.setTop (mkF m 40 #[.val (.int rr), .val (.ref b1), .val (.ref b2), .val (.ref b3), .val (.ref b4)] [])) _
      exact kt
  obtain ⟨cq10, Arq10, -, Sq10, -, Hq10, -⟩ := id V_b3
  obtain ⟨cq11, Arq11, -, Sq11, -, Hq11, -⟩ := id V_b4
  obtain ⟨fs, hr, hrun, hended, hW, hsame⟩ := X0.leave (v := some (.int (1 : Int32))) (fun h => by rw [Bd.returns] at h; cases h)
  refine ⟨_, _, pre0 _ ?_, hrun, hended, _, _, rfl, ?_, ⟨_, rfl⟩, hW, hsame.mono (by decide) (by decide)⟩
  · show Steps p.tables e below (s₁.setTop (mkF m 0 #[.val (.int rr), .val (.ref b1), .val (.ref b2), .val (.ref b3), .val (.ref b4)] [])) _
    refine XS.aloadN X0.here hx rfl (hb hby d7_0) rfl rfl ?_
    refine XS.iconst X0.here hx rfl (hb hby d7_1) ?_
    refine X0.baloadBooleans hx (j := (0 : Int32)) (v := (.int pa)) (by rw [e0]; exact Arq1.1) (State.isArrayOf_alike hZ.alike Arq1.2.1) Arq1.2.2 (inb_of Sq1 ⟨by decide, by decide⟩) (Has.at Hq1 (inb_of Sq1 ⟨by decide, by decide⟩) rfl) (g := (mkF m 2 #[.val (.int rr), .val (.ref b1), .val (.ref b2), .val (.ref b3), .val (.ref b4)] [(.int (0 : Int32)), (.ref b1)])) rfl rfl (hb hby d7_2) _ ?_
    show Steps p.tables e below (s₁.setTop (mkF m 3 #[.val (.int rr), .val (.ref b1), .val (.ref b2), .val (.ref b3), .val (.ref b4)] [(.int pa)])) _
    refine jn3 _ ?_
    show Steps p.tables e below (s₁.setTop (mkF m 13 #[.val (.int rr), .val (.ref b1), .val (.ref b2), .val (.ref b3), .val (.ref b4)] [])) _
    refine XS.aloadN X0.here hx rfl (hb hby d7_13) rfl rfl ?_
    refine XS.iconst X0.here hx rfl (hb hby d7_14) ?_
    refine X0.baloadBooleans hx (j := (1 : Int32)) (v := (.int pb)) (by rw [e0]; exact Arq4.1) (State.isArrayOf_alike hZ.alike Arq4.2.1) Arq4.2.2 (inb_of Sq4 ⟨by decide, by decide⟩) (Has.at Hq4 (inb_of Sq4 ⟨by decide, by decide⟩) rfl) (g := (mkF m 15 #[.val (.int rr), .val (.ref b1), .val (.ref b2), .val (.ref b3), .val (.ref b4)] [(.int (1 : Int32)), (.ref b1)])) rfl rfl (hb hby d7_15) _ ?_
    show Steps p.tables e below (s₁.setTop (mkF m 16 #[.val (.int rr), .val (.ref b1), .val (.ref b2), .val (.ref b3), .val (.ref b4)] [(.int pb)])) _
    refine jn6 _ ?_
    show Steps p.tables e below (s₁.setTop (mkF m 26 #[.val (.int rr), .val (.ref b1), .val (.ref b2), .val (.ref b3), .val (.ref b4)] [])) _
    refine XS.aloadN X0.here hx rfl (hb hby d7_26) rfl rfl ?_
    show Steps p.tables e below (s₁.setTop (mkF m 27 #[.val (.int rr), .val (.ref b1), .val (.ref b2), .val (.ref b3), .val (.ref b4)] [(.ref b3)])) _
    refine XS.iconst X0.here hx rfl (hb hby d7_27) ?_
    refine X0.baloadBooleans hx (j := (0 : Int32)) (v := (.int ia)) (by rw [e0]; exact Arq7.1) (State.isArrayOf_alike hZ.alike Arq7.2.1) Arq7.2.2 (inb_of Sq7 ⟨by decide, by decide⟩) (Has.at Hq7 (inb_of Sq7 ⟨by decide, by decide⟩) rfl) (g := (mkF m 28 #[.val (.int rr), .val (.ref b1), .val (.ref b2), .val (.ref b3), .val (.ref b4)] [(.int (0 : Int32)), (.ref b3)])) rfl rfl (hb hby d7_28) _ ?_
    show Steps p.tables e below (s₁.setTop (mkF m 29 #[.val (.int rr), .val (.ref b1), .val (.ref b2), .val (.ref b3), .val (.ref b4)] [(.int ia)])) _
    refine jn9 _ ?_
    show Steps p.tables e below (s₁.setTop (mkF m 40 #[.val (.int rr), .val (.ref b1), .val (.ref b2), .val (.ref b3), .val (.ref b4)] [])) _
    refine XS.aloadN X0.here hx rfl (hb hby d7_40) rfl rfl ?_
    refine XS.iconst X0.here hx rfl (hb hby d7_41) ?_
    show Steps p.tables e below (s₁.setTop (mkF m 42 #[.val (.int rr), .val (.ref b1), .val (.ref b2), .val (.ref b3), .val (.ref b4)] [(.int (1 : Int32)), (.ref b3)])) _
    refine X0.baloadBooleans hx (j := (1 : Int32)) (v := (.int ib)) (by rw [e0]; exact Arq10.1) (State.isArrayOf_alike hZ.alike Arq10.2.1) Arq10.2.2 (inb_of Sq10 ⟨by decide, by decide⟩) (Has.at Hq10 (inb_of Sq10 ⟨by decide, by decide⟩) rfl) (g := (mkF m 42 #[.val (.int rr), .val (.ref b1), .val (.ref b2), .val (.ref b3), .val (.ref b4)] [(.int (1 : Int32)), (.ref b3)])) rfl rfl (hb hby d7_42) _ ?_
    show Steps p.tables e below (s₁.setTop (mkF m 43 #[.val (.int rr), .val (.ref b1), .val (.ref b2), .val (.ref b3), .val (.ref b4)] [(.int ib)])) _
    refine XS.ifNo X0.here hx rfl (hb hby d7_43) rfl ((if0 _ _).trans (feq (hfl : ¬ (ib = (0 : Int32)))).1) ?_
    refine XS.aload X0.here hx rfl (hb hby d7_46) rfl rfl ?_
    refine XS.iconst X0.here hx rfl (hb hby d7_48) ?_
    refine X0.iaload hx (j := (1 : Int32)) (v := (.int r1)) (by rw [e0]; exact Arq11.1) (State.isArrayOf_alike hZ.alike Arq11.2.1) Arq11.2.2 (inb_of Sq11 ⟨by decide, by decide⟩) (Has.at Hq11 (inb_of Sq11 ⟨by decide, by decide⟩) rfl) (g := (mkF m 49 #[.val (.int rr), .val (.ref b1), .val (.ref b2), .val (.ref b3), .val (.ref b4)] [(.int (1 : Int32)), (.ref b4)])) rfl rfl (hb hby d7_49) _ ?_
    show Steps p.tables e below (s₁.setTop (mkF m 50 #[.val (.int rr), .val (.ref b1), .val (.ref b2), .val (.ref b3), .val (.ref b4)] [(.int r1)])) _
    refine XS.iloadN X0.here hx rfl (hb hby d7_50) rfl ?_
    show Steps p.tables e below (s₁.setTop (mkF m 51 #[.val (.int rr), .val (.ref b1), .val (.ref b2), .val (.ref b3), .val (.ref b4)] [(.int rr), (.int r1)])) _
    refine XS.icmpYes X0.here hx rfl (pc0 := 51) (pc' := 68) rfl (hb hby d7_51) rfl (teq (hre : r1 = rr)).1 (by decide) (by decide) ?_
    refine XS.iconst X0.here hx rfl (hb hby d7_68) ?_
    refine XS.goto X0.here hx rfl (pc0 := 69) (pc' := 73) rfl (hb hby d7_69) (by decide) (by decide) ?_
    exact retN X0 hx (t := .boolean) Bd.returns (by simp) (hb hby d7_73) hr
  · show Q_le3 Z rr b1 b2 b3 b4 g1 g2 g3 g4 pa pb i1 i2 ia ib ic r0 r1 r2 h0 n0 _ s₁.heap _
    rw [e0]
    exact ⟨rfl, N0, rfl⟩
theorem d7_54 : decode method_3_code 54 = .ok (.aload_n 3, 1) := by decide +kernel
theorem d7_55 : decode method_3_code 55 = .ok (.iconst 2, 1) := by decide +kernel
theorem d7_56 : decode method_3_code 56 = .ok (.baload, 1) := by decide +kernel
theorem d7_57 : decode method_3_code 57 = .ok (.ifCond .eq 15, 3) := by decide +kernel
theorem d7_60 : decode method_3_code 60 = .ok (.aload 4, 2) := by decide +kernel
theorem d7_62 : decode method_3_code 62 = .ok (.iconst 2, 1) := by decide +kernel
theorem d7_63 : decode method_3_code 63 = .ok (.iaload, 1) := by decide +kernel
theorem d7_64 : decode method_3_code 64 = .ok (.iload_n 0, 1) := by decide +kernel
theorem d7_65 : decode method_3_code 65 = .ok (.if_icmp .ne 7, 3) := by decide +kernel
def Q_le4 (Z : State) (rr : Int32) (b1 : Addr) (b2 : Addr) (b3 : Addr) (b4 : Addr) (g1 : ClassId) (g2 : ClassId) (g3 : ClassId) (g4 : ClassId) (pa : Int32) (pb : Int32) (i1 : Int32) (i2 : Int32) (ia : Int32) (ib : Int32) (ic : Int32) (r0 : Int32) (r1 : Int32) (r2 : Int32) (h0 : Heap) (n0 : Nat) (v : Option Value) (h : Heap) (L : List Loc) : Prop := v = some (.int (1 : Int32)) ∧ Fr n0 L ∧ h = h0
set_option maxRecDepth 65536 in
set_option maxHeartbeats 40000000 in
theorem le4 (l : Launch) (Z : State) (a0 : Array Value) (hw : ∀ d ∈ tables_1, d.before a0 Z = true) (ws : List Jvm.Cond) (rr : Int32) (b1 : Addr) (b2 : Addr) (b3 : Addr) (b4 : Addr) (g1 : ClassId) (g2 : ClassId) (g3 : ClassId) (g4 : ClassId) (pa : Int32) (pb : Int32) (i1 : Int32) (i2 : Int32) (ia : Int32) (ib : Int32) (ic : Int32) (r0 : Int32) (r1 : Int32) (r2 : Int32) (h0 : Heap) (n0 : Nat) (Z0 : n0 ≤ h0.size) (V_b1 : Arv Z h0 b1 g1 .boolean (2 : Int32) [(.int pa), (.int pb)] (.int (0 : Int32))) (V_b2 : Arv Z h0 b2 g2 .int (2 : Int32) [(.int i1), (.int i2)] (.int (0 : Int32))) (V_b3 : Arv Z h0 b3 g3 .boolean (3 : Int32) [(.int ia), (.int ib), (.int ic)] (.int (0 : Int32))) (V_b4 : Arv Z h0 b4 g4 .int (3 : Int32) [(.int r0), (.int r1), (.int r2)] (.int (0 : Int32))) (hm0 : ¬ (pa = (0 : Int32)) → ¬ (i1 = rr)) (hm1 : ¬ (pb = (0 : Int32)) → ¬ (i2 = rr)) (hm2 : ¬ (ia = (0 : Int32)) → ¬ (r0 = rr)) (hm3 : ¬ (ib = (0 : Int32)) → ¬ (r1 = rr)) (hfl : ¬ (ic = (0 : Int32))) (hre : r2 = rr) :
    MetFree l (⟨"com/example/leeway/leeway/lp/SparseColumnSubtractPinLaw", "listedExpected", "(I[Z[I[Z[I)Z"⟩ : MethodName) (head1 (Jvm.Cond.code (⟨"com/example/leeway/leeway/lp/SparseColumnSubtractPinLaw", "listedExpected", "(I[Z[I[Z[I)Z"⟩ : MethodName) method_3_code 5 (some .boolean) :: ws) ({ frames := 0, cells := 0, slots := 0, locals := 0 } : Room)) (fun a U => a = #[(.int rr), (.ref b1), (.ref b2), (.ref b3), (.ref b4)] ∧ Z.Warmed39 U.vm ∧ U.heap = h0) (fun _ _ _ _ _ => True) (fun _ U o U' => ∃ v L, o = .returned v ∧ Q_le4 Z rr b1 b2 b3 b4 g1 g2 g3 g4 pa pb i1 i2 ia ib ic r0 r1 r2 h0 n0 v U'.heap L ∧ FrameEnd U o U' L ({ frames := 0, cells := 0, slots := 0, locals := 0 } : Room).cells ({ frames := 0, cells := 0, slots := 0, locals := 0 } : Room).slots) := by
  refine MetFree.of_bodySF (plainFor_of_name pn_com_example_leeway_leeway_lp_SparseColumnSubtractPinLaw) hisR ?_
  intro p e s m args below meth c s₁ Bd hml0 hP hK
  obtain ⟨rfl, hZ, hh⟩ := hP
  have hx := Bd.exec
  have hby := Bd.bytes
  have hml : c.maxLocals = 5 := hml0
  have hown : s.vm.findClass "com/example/leeway/leeway/lp/SparseColumnSubtractPinLaw" = some m.cls := findClass_of_methodNamed Bd.named
  have hnm := (name_of_methodNamed Bd.named Bd.method).1
  have X0 : Stand p l e ({ frames := 0, cells := 0, slots := 0, locals := 0 } : Room) s m #[(.int rr), (.ref b1), (.ref b2), (.ref b3), (.ref b4)] below meth c s₁ [] 0 0 := Stand.of_body Bd
  have e0 : s₁.heap = h0 := by rw [← hh, Bd.state]; rfl
  have N0 := Fr.nil n0
  have pre0 : ∀ t, Steps p.tables e below (s₁.setTop (mkF m 0 #[.val (.int rr), .val (.ref b1), .val (.ref b2), .val (.ref b3), .val (.ref b4)] [])) t → Steps p.tables e below (s₁.setTop (entryFrame m #[(.int rr), (.ref b1), (.ref b2), (.ref b3), (.ref b4)] 5)) t := fun t k => castTop (ef_7_IRRRR m rr b1 b2 b3 b4) k
  obtain ⟨cq1, Arq1, -, Sq1, -, Hq1, -⟩ := id V_b1
  obtain ⟨cq2, Arq2, -, Sq2, -, Hq2, -⟩ := id V_b2
  have jn3 : ∀ target, Steps p.tables e below (s₁.setTop (mkF m 13 #[.val (.int rr), .val (.ref b1), .val (.ref b2), .val (.ref b3), .val (.ref b4)] [])) target → Steps p.tables e below (s₁.setTop (mkF m 3 #[.val (.int rr), .val (.ref b1), .val (.ref b2), .val (.ref b3), .val (.ref b4)] [(.int pa)])) target := by
    intro target kt
    by_cases hq : pa = (0 : Int32)
    · show Steps p.tables e below (s₁.setTop (mkF m 3 #[.val (.int rr), .val (.ref b1), .val (.ref b2), .val (.ref b3), .val (.ref b4)] [(.int pa)])) _
      refine XS.ifYes X0.here hx rfl (pc0 := 3) (pc' := 13) rfl (hb hby d7_3) rfl ((if0 _ _).trans (teq hq).1) (by decide) (by decide) ?_
      show Steps p.tables e below (s₁.setTop (mkF m 13 #[.val (.int rr), .val (.ref b1), .val (.ref b2), .val (.ref b3), .val (.ref b4)] [])) _
      exact kt
    · show Steps p.tables e below (s₁.setTop (mkF m 3 #[.val (.int rr), .val (.ref b1), .val (.ref b2), .val (.ref b3), .val (.ref b4)] [(.int pa)])) _
      refine XS.ifNo X0.here hx rfl (hb hby d7_3) rfl ((if0 _ _).trans (feq hq).1) ?_
      show Steps p.tables e below (s₁.setTop (mkF m 6 #[.val (.int rr), .val (.ref b1), .val (.ref b2), .val (.ref b3), .val (.ref b4)] [])) _
      refine XS.aloadN X0.here hx rfl (hb hby d7_6) rfl rfl ?_
      refine XS.iconst X0.here hx rfl (hb hby d7_7) ?_
      refine X0.iaload hx (j := (0 : Int32)) (v := (.int i1)) (by rw [e0]; exact Arq2.1) (State.isArrayOf_alike hZ.alike Arq2.2.1) Arq2.2.2 (inb_of Sq2 ⟨by decide, by decide⟩) (Has.at Hq2 (inb_of Sq2 ⟨by decide, by decide⟩) rfl) (g := (mkF m 8 #[.val (.int rr), .val (.ref b1), .val (.ref b2), .val (.ref b3), .val (.ref b4)] [(.int (0 : Int32)), (.ref b2)])) rfl rfl (hb hby d7_8) _ ?_
      show Steps p.tables e below (s₁.setTop (mkF m 9 #[.val (.int rr), .val (.ref b1), .val (.ref b2), .val (.ref b3), .val (.ref b4)] [(.int i1)])) _
      refine XS.iloadN X0.here hx rfl (hb hby d7_9) rfl ?_
      refine XS.icmpNo X0.here hx rfl (hb hby d7_10) rfl (feq (hm0 hq : ¬ (i1 = rr))).1 ?_
      show Steps p.tables e below (s₁.setTop (mkF m 13 #[.val (.int rr), .val (.ref b1), .val (.ref b2), .val (.ref b3), .val (.ref b4)] [])) _
      exact kt
  obtain ⟨cq4, Arq4, -, Sq4, -, Hq4, -⟩ := id V_b1
  obtain ⟨cq5, Arq5, -, Sq5, -, Hq5, -⟩ := id V_b2
  have jn6 : ∀ target, Steps p.tables e below (s₁.setTop (mkF m 26 #[.val (.int rr), .val (.ref b1), .val (.ref b2), .val (.ref b3), .val (.ref b4)] [])) target → Steps p.tables e below (s₁.setTop (mkF m 16 #[.val (.int rr), .val (.ref b1), .val (.ref b2), .val (.ref b3), .val (.ref b4)] [(.int pb)])) target := by
    intro target kt
    by_cases hq : pb = (0 : Int32)
    · show Steps p.tables e below (s₁.setTop (mkF m 16 #[.val (.int rr), .val (.ref b1), .val (.ref b2), .val (.ref b3), .val (.ref b4)] [(.int pb)])) _
      refine XS.ifYes X0.here hx rfl (pc0 := 16) (pc' := 26) rfl (hb hby d7_16) rfl ((if0 _ _).trans (teq hq).1) (by decide) (by decide) ?_
      show Steps p.tables e below (s₁.setTop (mkF m 26 #[.val (.int rr), .val (.ref b1), .val (.ref b2), .val (.ref b3), .val (.ref b4)] [])) _
      exact kt
    · show Steps p.tables e below (s₁.setTop (mkF m 16 #[.val (.int rr), .val (.ref b1), .val (.ref b2), .val (.ref b3), .val (.ref b4)] [(.int pb)])) _
      refine XS.ifNo X0.here hx rfl (hb hby d7_16) rfl ((if0 _ _).trans (feq hq).1) ?_
      refine XS.aloadN X0.here hx rfl (hb hby d7_19) rfl rfl ?_
      show Steps p.tables e below (s₁.setTop (mkF m 20 #[.val (.int rr), .val (.ref b1), .val (.ref b2), .val (.ref b3), .val (.ref b4)] [(.ref b2)])) _
      refine XS.iconst X0.here hx rfl (hb hby d7_20) ?_
      refine X0.iaload hx (j := (1 : Int32)) (v := (.int i2)) (by rw [e0]; exact Arq5.1) (State.isArrayOf_alike hZ.alike Arq5.2.1) Arq5.2.2 (inb_of Sq5 ⟨by decide, by decide⟩) (Has.at Hq5 (inb_of Sq5 ⟨by decide, by decide⟩) rfl) (g := (mkF m 21 #[.val (.int rr), .val (.ref b1), .val (.ref b2), .val (.ref b3), .val (.ref b4)] [(.int (1 : Int32)), (.ref b2)])) rfl rfl (hb hby d7_21) _ ?_
      show Steps p.tables e below (s₁.setTop (mkF m 22 #[.val (.int rr), .val (.ref b1), .val (.ref b2), .val (.ref b3), .val (.ref b4)] [(.int i2)])) _
      refine XS.iloadN X0.here hx rfl (hb hby d7_22) rfl ?_
      refine XS.icmpNo X0.here hx rfl (hb hby d7_23) rfl (feq (hm1 hq : ¬ (i2 = rr))).1 ?_
      show Steps p.tables e below (s₁.setTop (mkF m 26 #[.val (.int rr), .val (.ref b1), .val (.ref b2), .val (.ref b3), .val (.ref b4)] [])) _
      exact kt
  obtain ⟨cq7, Arq7, -, Sq7, -, Hq7, -⟩ := id V_b3
  obtain ⟨cq8, Arq8, -, Sq8, -, Hq8, -⟩ := id V_b4
  have jn9 : ∀ target, Steps p.tables e below (s₁.setTop (mkF m 40 #[.val (.int rr), .val (.ref b1), .val (.ref b2), .val (.ref b3), .val (.ref b4)] [])) target → Steps p.tables e below (s₁.setTop (mkF m 29 #[.val (.int rr), .val (.ref b1), .val (.ref b2), .val (.ref b3), .val (.ref b4)] [(.int ia)])) target := by
    intro target kt
    by_cases hq : ia = (0 : Int32)
    · show Steps p.tables e below (s₁.setTop (mkF m 29 #[.val (.int rr), .val (.ref b1), .val (.ref b2), .val (.ref b3), .val (.ref b4)] [(.int ia)])) _
      refine XS.ifYes X0.here hx rfl (pc0 := 29) (pc' := 40) rfl (hb hby d7_29) rfl ((if0 _ _).trans (teq hq).1) (by decide) (by decide) ?_
      show Steps p.tables e below (s₁.setTop (mkF m 40 #[.val (.int rr), .val (.ref b1), .val (.ref b2), .val (.ref b3), .val (.ref b4)] [])) _
      exact kt
    · show Steps p.tables e below (s₁.setTop (mkF m 29 #[.val (.int rr), .val (.ref b1), .val (.ref b2), .val (.ref b3), .val (.ref b4)] [(.int ia)])) _
      refine XS.ifNo X0.here hx rfl (hb hby d7_29) rfl ((if0 _ _).trans (feq hq).1) ?_
      refine XS.aload X0.here hx rfl (hb hby d7_32) rfl rfl ?_
      refine XS.iconst X0.here hx rfl (hb hby d7_34) ?_
      show Steps p.tables e below (s₁.setTop (mkF m 35 #[.val (.int rr), .val (.ref b1), .val (.ref b2), .val (.ref b3), .val (.ref b4)] [(.int (0 : Int32)), (.ref b4)])) _
      refine X0.iaload hx (j := (0 : Int32)) (v := (.int r0)) (by rw [e0]; exact Arq8.1) (State.isArrayOf_alike hZ.alike Arq8.2.1) Arq8.2.2 (inb_of Sq8 ⟨by decide, by decide⟩) (Has.at Hq8 (inb_of Sq8 ⟨by decide, by decide⟩) rfl) (g := (mkF m 35 #[.val (.int rr), .val (.ref b1), .val (.ref b2), .val (.ref b3), .val (.ref b4)] [(.int (0 : Int32)), (.ref b4)])) rfl rfl (hb hby d7_35) _ ?_
      show Steps p.tables e below (s₁.setTop (mkF m 36 #[.val (.int rr), .val (.ref b1), .val (.ref b2), .val (.ref b3), .val (.ref b4)] [(.int r0)])) _
      refine XS.iloadN X0.here hx rfl (hb hby d7_36) rfl ?_
      refine XS.icmpNo X0.here hx rfl (hb hby d7_37) rfl (feq (hm2 hq : ¬ (r0 = rr))).1 ?_
      show Steps p.tables e below (s₁.setTop (mkF m 40 #[.val (.int rr), .val (.ref b1), .val (.ref b2), .val (.ref b3), .val (.ref b4)] [])) _
      exact kt
  obtain ⟨cq10, Arq10, -, Sq10, -, Hq10, -⟩ := id V_b3
  obtain ⟨cq11, Arq11, -, Sq11, -, Hq11, -⟩ := id V_b4
  have jn12 : ∀ target, Steps p.tables e below (s₁.setTop (mkF m 54 #[.val (.int rr), .val (.ref b1), .val (.ref b2), .val (.ref b3), .val (.ref b4)] [])) target → Steps p.tables e below (s₁.setTop (mkF m 43 #[.val (.int rr), .val (.ref b1), .val (.ref b2), .val (.ref b3), .val (.ref b4)] [(.int ib)])) target := by
    intro target kt
    by_cases hq : ib = (0 : Int32)
    · show Steps p.tables e below (s₁.setTop (mkF m 43 #[.val (.int rr), .val (.ref b1), .val (.ref b2), .val (.ref b3), .val (.ref b4)] [(.int ib)])) _
      refine XS.ifYes X0.here hx rfl (pc0 := 43) (pc' := 54) rfl (hb hby d7_43) rfl ((if0 _ _).trans (teq hq).1) (by decide) (by decide) ?_
      show Steps p.tables e below (s₁.setTop (mkF m 54 #[.val (.int rr), .val (.ref b1), .val (.ref b2), .val (.ref b3), .val (.ref b4)] [])) _
      exact kt
    · show Steps p.tables e below (s₁.setTop (mkF m 43 #[.val (.int rr), .val (.ref b1), .val (.ref b2), .val (.ref b3), .val (.ref b4)] [(.int ib)])) _
      refine XS.ifNo X0.here hx rfl (hb hby d7_43) rfl ((if0 _ _).trans (feq hq).1) ?_
      refine XS.aload X0.here hx rfl (hb hby d7_46) rfl rfl ?_
      refine XS.iconst X0.here hx rfl (hb hby d7_48) ?_
      refine X0.iaload hx (j := (1 : Int32)) (v := (.int r1)) (by rw [e0]; exact Arq11.1) (State.isArrayOf_alike hZ.alike Arq11.2.1) Arq11.2.2 (inb_of Sq11 ⟨by decide, by decide⟩) (Has.at Hq11 (inb_of Sq11 ⟨by decide, by decide⟩) rfl) (g := (mkF m 49 #[.val (.int rr), .val (.ref b1), .val (.ref b2), .val (.ref b3), .val (.ref b4)] [(.int (1 : Int32)), (.ref b4)])) rfl rfl (hb hby d7_49) _ ?_
      show Steps p.tables e below (s₁.setTop (mkF m 50 #[.val (.int rr), .val (.ref b1), .val (.ref b2), .val (.ref b3), .val (.ref b4)] [(.int r1)])) _
      refine XS.iloadN X0.here hx rfl (hb hby d7_50) rfl ?_
      refine XS.icmpNo X0.here hx rfl (hb hby d7_51) rfl (feq (hm3 hq : ¬ (r1 = rr))).1 ?_
      show Steps p.tables e below (s₁.setTop (mkF m 54 #[.val (.int rr), .val (.ref b1), .val (.ref b2), .val (.ref b3), .val (.ref b4)] [])) _
      exact kt
  obtain ⟨cq13, Arq13, -, Sq13, -, Hq13, -⟩ := id V_b3
  obtain ⟨cq14, Arq14, -, Sq14, -, Hq14, -⟩ := id V_b4
  obtain ⟨fs, hr, hrun, hended, hW, hsame⟩ := X0.leave (v := some (.int (1 : Int32))) (fun h => by rw [Bd.returns] at h; cases h)
  refine ⟨_, _, pre0 _ ?_, hrun, hended, _, _, rfl, ?_, ⟨_, rfl⟩, hW, hsame.mono (by decide) (by decide)⟩
  · show Steps p.tables e below (s₁.setTop (mkF m 0 #[.val (.int rr), .val (.ref b1), .val (.ref b2), .val (.ref b3), .val (.ref b4)] [])) _
    refine XS.aloadN X0.here hx rfl (hb hby d7_0) rfl rfl ?_
    refine XS.iconst X0.here hx rfl (hb hby d7_1) ?_
    refine X0.baloadBooleans hx (j := (0 : Int32)) (v := (.int pa)) (by rw [e0]; exact Arq1.1) (State.isArrayOf_alike hZ.alike Arq1.2.1) Arq1.2.2 (inb_of Sq1 ⟨by decide, by decide⟩) (Has.at Hq1 (inb_of Sq1 ⟨by decide, by decide⟩) rfl) (g := (mkF m 2 #[.val (.int rr), .val (.ref b1), .val (.ref b2), .val (.ref b3), .val (.ref b4)] [(.int (0 : Int32)), (.ref b1)])) rfl rfl (hb hby d7_2) _ ?_
    show Steps p.tables e below (s₁.setTop (mkF m 3 #[.val (.int rr), .val (.ref b1), .val (.ref b2), .val (.ref b3), .val (.ref b4)] [(.int pa)])) _
    refine jn3 _ ?_
    show Steps p.tables e below (s₁.setTop (mkF m 13 #[.val (.int rr), .val (.ref b1), .val (.ref b2), .val (.ref b3), .val (.ref b4)] [])) _
    refine XS.aloadN X0.here hx rfl (hb hby d7_13) rfl rfl ?_
    refine XS.iconst X0.here hx rfl (hb hby d7_14) ?_
    refine X0.baloadBooleans hx (j := (1 : Int32)) (v := (.int pb)) (by rw [e0]; exact Arq4.1) (State.isArrayOf_alike hZ.alike Arq4.2.1) Arq4.2.2 (inb_of Sq4 ⟨by decide, by decide⟩) (Has.at Hq4 (inb_of Sq4 ⟨by decide, by decide⟩) rfl) (g := (mkF m 15 #[.val (.int rr), .val (.ref b1), .val (.ref b2), .val (.ref b3), .val (.ref b4)] [(.int (1 : Int32)), (.ref b1)])) rfl rfl (hb hby d7_15) _ ?_
    show Steps p.tables e below (s₁.setTop (mkF m 16 #[.val (.int rr), .val (.ref b1), .val (.ref b2), .val (.ref b3), .val (.ref b4)] [(.int pb)])) _
    refine jn6 _ ?_
    show Steps p.tables e below (s₁.setTop (mkF m 26 #[.val (.int rr), .val (.ref b1), .val (.ref b2), .val (.ref b3), .val (.ref b4)] [])) _
    refine XS.aloadN X0.here hx rfl (hb hby d7_26) rfl rfl ?_
    show Steps p.tables e below (s₁.setTop (mkF m 27 #[.val (.int rr), .val (.ref b1), .val (.ref b2), .val (.ref b3), .val (.ref b4)] [(.ref b3)])) _
    refine XS.iconst X0.here hx rfl (hb hby d7_27) ?_
    refine X0.baloadBooleans hx (j := (0 : Int32)) (v := (.int ia)) (by rw [e0]; exact Arq7.1) (State.isArrayOf_alike hZ.alike Arq7.2.1) Arq7.2.2 (inb_of Sq7 ⟨by decide, by decide⟩) (Has.at Hq7 (inb_of Sq7 ⟨by decide, by decide⟩) rfl) (g := (mkF m 28 #[.val (.int rr), .val (.ref b1), .val (.ref b2), .val (.ref b3), .val (.ref b4)] [(.int (0 : Int32)), (.ref b3)])) rfl rfl (hb hby d7_28) _ ?_
    show Steps p.tables e below (s₁.setTop (mkF m 29 #[.val (.int rr), .val (.ref b1), .val (.ref b2), .val (.ref b3), .val (.ref b4)] [(.int ia)])) _
    refine jn9 _ ?_
    show Steps p.tables e below (s₁.setTop (mkF m 40 #[.val (.int rr), .val (.ref b1), .val (.ref b2), .val (.ref b3), .val (.ref b4)] [])) _
    refine XS.aloadN X0.here hx rfl (hb hby d7_40) rfl rfl ?_
    refine XS.iconst X0.here hx rfl (hb hby d7_41) ?_
    show Steps p.tables e below (s₁.setTop (mkF m 42 #[.val (.int rr), .val (.ref b1), .val (.ref b2), .val (.ref b3), .val (.ref b4)] [(.int (1 : Int32)), (.ref b3)])) _
    refine X0.baloadBooleans hx (j := (1 : Int32)) (v := (.int ib)) (by rw [e0]; exact Arq10.1) (State.isArrayOf_alike hZ.alike Arq10.2.1) Arq10.2.2 (inb_of Sq10 ⟨by decide, by decide⟩) (Has.at Hq10 (inb_of Sq10 ⟨by decide, by decide⟩) rfl) (g := (mkF m 42 #[.val (.int rr), .val (.ref b1), .val (.ref b2), .val (.ref b3), .val (.ref b4)] [(.int (1 : Int32)), (.ref b3)])) rfl rfl (hb hby d7_42) _ ?_
    show Steps p.tables e below (s₁.setTop (mkF m 43 #[.val (.int rr), .val (.ref b1), .val (.ref b2), .val (.ref b3), .val (.ref b4)] [(.int ib)])) _
    refine jn12 _ ?_
    show Steps p.tables e below (s₁.setTop (mkF m 54 #[.val (.int rr), .val (.ref b1), .val (.ref b2), .val (.ref b3), .val (.ref b4)] [])) _
    refine XS.aloadN X0.here hx rfl (hb hby d7_54) rfl rfl ?_
    refine XS.iconst X0.here hx rfl (hb hby d7_55) ?_
    refine X0.baloadBooleans hx (j := (2 : Int32)) (v := (.int ic)) (by rw [e0]; exact Arq13.1) (State.isArrayOf_alike hZ.alike Arq13.2.1) Arq13.2.2 (inb_of Sq13 ⟨by decide, by decide⟩) (Has.at Hq13 (inb_of Sq13 ⟨by decide, by decide⟩) rfl) (g := (mkF m 56 #[.val (.int rr), .val (.ref b1), .val (.ref b2), .val (.ref b3), .val (.ref b4)] [(.int (2 : Int32)), (.ref b3)])) rfl rfl (hb hby d7_56) _ ?_
    show Steps p.tables e below (s₁.setTop (mkF m 57 #[.val (.int rr), .val (.ref b1), .val (.ref b2), .val (.ref b3), .val (.ref b4)] [(.int ic)])) _
    refine XS.ifNo X0.here hx rfl (hb hby d7_57) rfl ((if0 _ _).trans (feq (hfl : ¬ (ic = (0 : Int32)))).1) ?_
    refine XS.aload X0.here hx rfl (hb hby d7_60) rfl rfl ?_
    refine XS.iconst X0.here hx rfl (hb hby d7_62) ?_
    refine X0.iaload hx (j := (2 : Int32)) (v := (.int r2)) (by rw [e0]; exact Arq14.1) (State.isArrayOf_alike hZ.alike Arq14.2.1) Arq14.2.2 (inb_of Sq14 ⟨by decide, by decide⟩) (Has.at Hq14 (inb_of Sq14 ⟨by decide, by decide⟩) rfl) (g := (mkF m 63 #[.val (.int rr), .val (.ref b1), .val (.ref b2), .val (.ref b3), .val (.ref b4)] [(.int (2 : Int32)), (.ref b4)])) rfl rfl (hb hby d7_63) _ ?_
    show Steps p.tables e below (s₁.setTop (mkF m 64 #[.val (.int rr), .val (.ref b1), .val (.ref b2), .val (.ref b3), .val (.ref b4)] [(.int r2)])) _
    refine XS.iloadN X0.here hx rfl (hb hby d7_64) rfl ?_
    refine XS.icmpNo X0.here hx rfl (hb hby d7_65) rfl (teq (hre : r2 = rr)).2 ?_
    show Steps p.tables e below (s₁.setTop (mkF m 68 #[.val (.int rr), .val (.ref b1), .val (.ref b2), .val (.ref b3), .val (.ref b4)] [])) _
    refine XS.iconst X0.here hx rfl (hb hby d7_68) ?_
    refine XS.goto X0.here hx rfl (pc0 := 69) (pc' := 73) rfl (hb hby d7_69) (by decide) (by decide) ?_
    exact retN X0 hx (t := .boolean) Bd.returns (by simp) (hb hby d7_73) hr
  · show Q_le4 Z rr b1 b2 b3 b4 g1 g2 g3 g4 pa pb i1 i2 ia ib ic r0 r1 r2 h0 n0 _ s₁.heap _
    rw [e0]
    exact ⟨rfl, N0, rfl⟩
theorem d7_72 : decode method_3_code 72 = .ok (.iconst 0, 1) := by decide +kernel
def Q_le5 (Z : State) (rr : Int32) (b1 : Addr) (b2 : Addr) (b3 : Addr) (b4 : Addr) (g1 : ClassId) (g2 : ClassId) (g3 : ClassId) (g4 : ClassId) (pa : Int32) (pb : Int32) (i1 : Int32) (i2 : Int32) (ia : Int32) (ib : Int32) (ic : Int32) (r0 : Int32) (r1 : Int32) (r2 : Int32) (h0 : Heap) (n0 : Nat) (v : Option Value) (h : Heap) (L : List Loc) : Prop := v = some (.int (0 : Int32)) ∧ Fr n0 L ∧ h = h0
set_option maxRecDepth 65536 in
set_option maxHeartbeats 40000000 in
theorem le5 (l : Launch) (Z : State) (a0 : Array Value) (hw : ∀ d ∈ tables_1, d.before a0 Z = true) (ws : List Jvm.Cond) (rr : Int32) (b1 : Addr) (b2 : Addr) (b3 : Addr) (b4 : Addr) (g1 : ClassId) (g2 : ClassId) (g3 : ClassId) (g4 : ClassId) (pa : Int32) (pb : Int32) (i1 : Int32) (i2 : Int32) (ia : Int32) (ib : Int32) (ic : Int32) (r0 : Int32) (r1 : Int32) (r2 : Int32) (h0 : Heap) (n0 : Nat) (Z0 : n0 ≤ h0.size) (V_b1 : Arv Z h0 b1 g1 .boolean (2 : Int32) [(.int pa), (.int pb)] (.int (0 : Int32))) (V_b2 : Arv Z h0 b2 g2 .int (2 : Int32) [(.int i1), (.int i2)] (.int (0 : Int32))) (V_b3 : Arv Z h0 b3 g3 .boolean (3 : Int32) [(.int ia), (.int ib), (.int ic)] (.int (0 : Int32))) (V_b4 : Arv Z h0 b4 g4 .int (3 : Int32) [(.int r0), (.int r1), (.int r2)] (.int (0 : Int32))) (hm0 : ¬ (pa = (0 : Int32)) → ¬ (i1 = rr)) (hm1 : ¬ (pb = (0 : Int32)) → ¬ (i2 = rr)) (hm2 : ¬ (ia = (0 : Int32)) → ¬ (r0 = rr)) (hm3 : ¬ (ib = (0 : Int32)) → ¬ (r1 = rr)) (hm4 : ¬ (ic = (0 : Int32)) → ¬ (r2 = rr)) :
    MetFree l (⟨"com/example/leeway/leeway/lp/SparseColumnSubtractPinLaw", "listedExpected", "(I[Z[I[Z[I)Z"⟩ : MethodName) (head1 (Jvm.Cond.code (⟨"com/example/leeway/leeway/lp/SparseColumnSubtractPinLaw", "listedExpected", "(I[Z[I[Z[I)Z"⟩ : MethodName) method_3_code 5 (some .boolean) :: ws) ({ frames := 0, cells := 0, slots := 0, locals := 0 } : Room)) (fun a U => a = #[(.int rr), (.ref b1), (.ref b2), (.ref b3), (.ref b4)] ∧ Z.Warmed39 U.vm ∧ U.heap = h0) (fun _ _ _ _ _ => True) (fun _ U o U' => ∃ v L, o = .returned v ∧ Q_le5 Z rr b1 b2 b3 b4 g1 g2 g3 g4 pa pb i1 i2 ia ib ic r0 r1 r2 h0 n0 v U'.heap L ∧ FrameEnd U o U' L ({ frames := 0, cells := 0, slots := 0, locals := 0 } : Room).cells ({ frames := 0, cells := 0, slots := 0, locals := 0 } : Room).slots) := by
  refine MetFree.of_bodySF (plainFor_of_name pn_com_example_leeway_leeway_lp_SparseColumnSubtractPinLaw) hisR ?_
  intro p e s m args below meth c s₁ Bd hml0 hP hK
  obtain ⟨rfl, hZ, hh⟩ := hP
  have hx := Bd.exec
  have hby := Bd.bytes
  have hml : c.maxLocals = 5 := hml0
  have hown : s.vm.findClass "com/example/leeway/leeway/lp/SparseColumnSubtractPinLaw" = some m.cls := findClass_of_methodNamed Bd.named
  have hnm := (name_of_methodNamed Bd.named Bd.method).1
  have X0 : Stand p l e ({ frames := 0, cells := 0, slots := 0, locals := 0 } : Room) s m #[(.int rr), (.ref b1), (.ref b2), (.ref b3), (.ref b4)] below meth c s₁ [] 0 0 := Stand.of_body Bd
  have e0 : s₁.heap = h0 := by rw [← hh, Bd.state]; rfl
  have N0 := Fr.nil n0
  have pre0 : ∀ t, Steps p.tables e below (s₁.setTop (mkF m 0 #[.val (.int rr), .val (.ref b1), .val (.ref b2), .val (.ref b3), .val (.ref b4)] [])) t → Steps p.tables e below (s₁.setTop (entryFrame m #[(.int rr), (.ref b1), (.ref b2), (.ref b3), (.ref b4)] 5)) t := fun t k => castTop (ef_7_IRRRR m rr b1 b2 b3 b4) k
  obtain ⟨cq1, Arq1, -, Sq1, -, Hq1, -⟩ := id V_b1
  obtain ⟨cq2, Arq2, -, Sq2, -, Hq2, -⟩ := id V_b2
  have jn3 : ∀ target, Steps p.tables e below (s₁.setTop (mkF m 13 #[.val (.int rr), .val (.ref b1), .val (.ref b2), .val (.ref b3), .val (.ref b4)] [])) target → Steps p.tables e below (s₁.setTop (mkF m 3 #[.val (.int rr), .val (.ref b1), .val (.ref b2), .val (.ref b3), .val (.ref b4)] [(.int pa)])) target := by
    intro target kt
    by_cases hq : pa = (0 : Int32)
    · show Steps p.tables e below (s₁.setTop (mkF m 3 #[.val (.int rr), .val (.ref b1), .val (.ref b2), .val (.ref b3), .val (.ref b4)] [(.int pa)])) _
      refine XS.ifYes X0.here hx rfl (pc0 := 3) (pc' := 13) rfl (hb hby d7_3) rfl ((if0 _ _).trans (teq hq).1) (by decide) (by decide) ?_
      show Steps p.tables e below (s₁.setTop (mkF m 13 #[.val (.int rr), .val (.ref b1), .val (.ref b2), .val (.ref b3), .val (.ref b4)] [])) _
      exact kt
    · show Steps p.tables e below (s₁.setTop (mkF m 3 #[.val (.int rr), .val (.ref b1), .val (.ref b2), .val (.ref b3), .val (.ref b4)] [(.int pa)])) _
      refine XS.ifNo X0.here hx rfl (hb hby d7_3) rfl ((if0 _ _).trans (feq hq).1) ?_
      show Steps p.tables e below (s₁.setTop (mkF m 6 #[.val (.int rr), .val (.ref b1), .val (.ref b2), .val (.ref b3), .val (.ref b4)] [])) _
      refine XS.aloadN X0.here hx rfl (hb hby d7_6) rfl rfl ?_
      refine XS.iconst X0.here hx rfl (hb hby d7_7) ?_
      refine X0.iaload hx (j := (0 : Int32)) (v := (.int i1)) (by rw [e0]; exact Arq2.1) (State.isArrayOf_alike hZ.alike Arq2.2.1) Arq2.2.2 (inb_of Sq2 ⟨by decide, by decide⟩) (Has.at Hq2 (inb_of Sq2 ⟨by decide, by decide⟩) rfl) (g := (mkF m 8 #[.val (.int rr), .val (.ref b1), .val (.ref b2), .val (.ref b3), .val (.ref b4)] [(.int (0 : Int32)), (.ref b2)])) rfl rfl (hb hby d7_8) _ ?_
      show Steps p.tables e below (s₁.setTop (mkF m 9 #[.val (.int rr), .val (.ref b1), .val (.ref b2), .val (.ref b3), .val (.ref b4)] [(.int i1)])) _
      refine XS.iloadN X0.here hx rfl (hb hby d7_9) rfl ?_
      refine XS.icmpNo X0.here hx rfl (hb hby d7_10) rfl (feq (hm0 hq : ¬ (i1 = rr))).1 ?_
      show Steps p.tables e below (s₁.setTop (mkF m 13 #[.val (.int rr), .val (.ref b1), .val (.ref b2), .val (.ref b3), .val (.ref b4)] [])) _
      exact kt
  obtain ⟨cq4, Arq4, -, Sq4, -, Hq4, -⟩ := id V_b1
  obtain ⟨cq5, Arq5, -, Sq5, -, Hq5, -⟩ := id V_b2
  have jn6 : ∀ target, Steps p.tables e below (s₁.setTop (mkF m 26 #[.val (.int rr), .val (.ref b1), .val (.ref b2), .val (.ref b3), .val (.ref b4)] [])) target → Steps p.tables e below (s₁.setTop (mkF m 16 #[.val (.int rr), .val (.ref b1), .val (.ref b2), .val (.ref b3), .val (.ref b4)] [(.int pb)])) target := by
    intro target kt
    by_cases hq : pb = (0 : Int32)
    · show Steps p.tables e below (s₁.setTop (mkF m 16 #[.val (.int rr), .val (.ref b1), .val (.ref b2), .val (.ref b3), .val (.ref b4)] [(.int pb)])) _
      refine XS.ifYes X0.here hx rfl (pc0 := 16) (pc' := 26) rfl (hb hby d7_16) rfl ((if0 _ _).trans (teq hq).1) (by decide) (by decide) ?_
      show Steps p.tables e below (s₁.setTop (mkF m 26 #[.val (.int rr), .val (.ref b1), .val (.ref b2), .val (.ref b3), .val (.ref b4)] [])) _
      exact kt
    · show Steps p.tables e below (s₁.setTop (mkF m 16 #[.val (.int rr), .val (.ref b1), .val (.ref b2), .val (.ref b3), .val (.ref b4)] [(.int pb)])) _
      refine XS.ifNo X0.here hx rfl (hb hby d7_16) rfl ((if0 _ _).trans (feq hq).1) ?_
      refine XS.aloadN X0.here hx rfl (hb hby d7_19) rfl rfl ?_
      show Steps p.tables e below (s₁.setTop (mkF m 20 #[.val (.int rr), .val (.ref b1), .val (.ref b2), .val (.ref b3), .val (.ref b4)] [(.ref b2)])) _
      refine XS.iconst X0.here hx rfl (hb hby d7_20) ?_
      refine X0.iaload hx (j := (1 : Int32)) (v := (.int i2)) (by rw [e0]; exact Arq5.1) (State.isArrayOf_alike hZ.alike Arq5.2.1) Arq5.2.2 (inb_of Sq5 ⟨by decide, by decide⟩) (Has.at Hq5 (inb_of Sq5 ⟨by decide, by decide⟩) rfl) (g := (mkF m 21 #[.val (.int rr), .val (.ref b1), .val (.ref b2), .val (.ref b3), .val (.ref b4)] [(.int (1 : Int32)), (.ref b2)])) rfl rfl (hb hby d7_21) _ ?_
      show Steps p.tables e below (s₁.setTop (mkF m 22 #[.val (.int rr), .val (.ref b1), .val (.ref b2), .val (.ref b3), .val (.ref b4)] [(.int i2)])) _
      refine XS.iloadN X0.here hx rfl (hb hby d7_22) rfl ?_
      refine XS.icmpNo X0.here hx rfl (hb hby d7_23) rfl (feq (hm1 hq : ¬ (i2 = rr))).1 ?_
      show Steps p.tables e below (s₁.setTop (mkF m 26 #[.val (.int rr), .val (.ref b1), .val (.ref b2), .val (.ref b3), .val (.ref b4)] [])) _
      exact kt
  obtain ⟨cq7, Arq7, -, Sq7, -, Hq7, -⟩ := id V_b3
  obtain ⟨cq8, Arq8, -, Sq8, -, Hq8, -⟩ := id V_b4
  have jn9 : ∀ target, Steps p.tables e below (s₁.setTop (mkF m 40 #[.val (.int rr), .val (.ref b1), .val (.ref b2), .val (.ref b3), .val (.ref b4)] [])) target → Steps p.tables e below (s₁.setTop (mkF m 29 #[.val (.int rr), .val (.ref b1), .val (.ref b2), .val (.ref b3), .val (.ref b4)] [(.int ia)])) target := by
    intro target kt
    by_cases hq : ia = (0 : Int32)
    · show Steps p.tables e below (s₁.setTop (mkF m 29 #[.val (.int rr), .val (.ref b1), .val (.ref b2), .val (.ref b3), .val (.ref b4)] [(.int ia)])) _
      refine XS.ifYes X0.here hx rfl (pc0 := 29) (pc' := 40) rfl (hb hby d7_29) rfl ((if0 _ _).trans (teq hq).1) (by decide) (by decide) ?_
      show Steps p.tables e below (s₁.setTop (mkF m 40 #[.val (.int rr), .val (.ref b1), .val (.ref b2), .val (.ref b3), .val (.ref b4)] [])) _
      exact kt
    · show Steps p.tables e below (s₁.setTop (mkF m 29 #[.val (.int rr), .val (.ref b1), .val (.ref b2), .val (.ref b3), .val (.ref b4)] [(.int ia)])) _
      refine XS.ifNo X0.here hx rfl (hb hby d7_29) rfl ((if0 _ _).trans (feq hq).1) ?_
      refine XS.aload X0.here hx rfl (hb hby d7_32) rfl rfl ?_
      refine XS.iconst X0.here hx rfl (hb hby d7_34) ?_
      show Steps p.tables e below (s₁.setTop (mkF m 35 #[.val (.int rr), .val (.ref b1), .val (.ref b2), .val (.ref b3), .val (.ref b4)] [(.int (0 : Int32)), (.ref b4)])) _
      refine X0.iaload hx (j := (0 : Int32)) (v := (.int r0)) (by rw [e0]; exact Arq8.1) (State.isArrayOf_alike hZ.alike Arq8.2.1) Arq8.2.2 (inb_of Sq8 ⟨by decide, by decide⟩) (Has.at Hq8 (inb_of Sq8 ⟨by decide, by decide⟩) rfl) (g := (mkF m 35 #[.val (.int rr), .val (.ref b1), .val (.ref b2), .val (.ref b3), .val (.ref b4)] [(.int (0 : Int32)), (.ref b4)])) rfl rfl (hb hby d7_35) _ ?_
      show Steps p.tables e below (s₁.setTop (mkF m 36 #[.val (.int rr), .val (.ref b1), .val (.ref b2), .val (.ref b3), .val (.ref b4)] [(.int r0)])) _
      refine XS.iloadN X0.here hx rfl (hb hby d7_36) rfl ?_
      refine XS.icmpNo X0.here hx rfl (hb hby d7_37) rfl (feq (hm2 hq : ¬ (r0 = rr))).1 ?_
      show Steps p.tables e below (s₁.setTop (mkF m 40 #[.val (.int rr), .val (.ref b1), .val (.ref b2), .val (.ref b3), .val (.ref b4)] [])) _
      exact kt
  obtain ⟨cq10, Arq10, -, Sq10, -, Hq10, -⟩ := id V_b3
  obtain ⟨cq11, Arq11, -, Sq11, -, Hq11, -⟩ := id V_b4
  have jn12 : ∀ target, Steps p.tables e below (s₁.setTop (mkF m 54 #[.val (.int rr), .val (.ref b1), .val (.ref b2), .val (.ref b3), .val (.ref b4)] [])) target → Steps p.tables e below (s₁.setTop (mkF m 43 #[.val (.int rr), .val (.ref b1), .val (.ref b2), .val (.ref b3), .val (.ref b4)] [(.int ib)])) target := by
    intro target kt
    by_cases hq : ib = (0 : Int32)
    · show Steps p.tables e below (s₁.setTop (mkF m 43 #[.val (.int rr), .val (.ref b1), .val (.ref b2), .val (.ref b3), .val (.ref b4)] [(.int ib)])) _
      refine XS.ifYes X0.here hx rfl (pc0 := 43) (pc' := 54) rfl (hb hby d7_43) rfl ((if0 _ _).trans (teq hq).1) (by decide) (by decide) ?_
      show Steps p.tables e below (s₁.setTop (mkF m 54 #[.val (.int rr), .val (.ref b1), .val (.ref b2), .val (.ref b3), .val (.ref b4)] [])) _
      exact kt
    · show Steps p.tables e below (s₁.setTop (mkF m 43 #[.val (.int rr), .val (.ref b1), .val (.ref b2), .val (.ref b3), .val (.ref b4)] [(.int ib)])) _
      refine XS.ifNo X0.here hx rfl (hb hby d7_43) rfl ((if0 _ _).trans (feq hq).1) ?_
      refine XS.aload X0.here hx rfl (hb hby d7_46) rfl rfl ?_
      refine XS.iconst X0.here hx rfl (hb hby d7_48) ?_
      refine X0.iaload hx (j := (1 : Int32)) (v := (.int r1)) (by rw [e0]; exact Arq11.1) (State.isArrayOf_alike hZ.alike Arq11.2.1) Arq11.2.2 (inb_of Sq11 ⟨by decide, by decide⟩) (Has.at Hq11 (inb_of Sq11 ⟨by decide, by decide⟩) rfl) (g := (mkF m 49 #[.val (.int rr), .val (.ref b1), .val (.ref b2), .val (.ref b3), .val (.ref b4)] [(.int (1 : Int32)), (.ref b4)])) rfl rfl (hb hby d7_49) _ ?_
      show Steps p.tables e below (s₁.setTop (mkF m 50 #[.val (.int rr), .val (.ref b1), .val (.ref b2), .val (.ref b3), .val (.ref b4)] [(.int r1)])) _
      refine XS.iloadN X0.here hx rfl (hb hby d7_50) rfl ?_
      refine XS.icmpNo X0.here hx rfl (hb hby d7_51) rfl (feq (hm3 hq : ¬ (r1 = rr))).1 ?_
      show Steps p.tables e below (s₁.setTop (mkF m 54 #[.val (.int rr), .val (.ref b1), .val (.ref b2), .val (.ref b3), .val (.ref b4)] [])) _
      exact kt
  obtain ⟨cq13, Arq13, -, Sq13, -, Hq13, -⟩ := id V_b3
  obtain ⟨cq14, Arq14, -, Sq14, -, Hq14, -⟩ := id V_b4
  have jn15 : ∀ target, Steps p.tables e below (s₁.setTop (mkF m 72 #[.val (.int rr), .val (.ref b1), .val (.ref b2), .val (.ref b3), .val (.ref b4)] [])) target → Steps p.tables e below (s₁.setTop (mkF m 57 #[.val (.int rr), .val (.ref b1), .val (.ref b2), .val (.ref b3), .val (.ref b4)] [(.int ic)])) target := by
    intro target kt
    by_cases hq : ic = (0 : Int32)
    · show Steps p.tables e below (s₁.setTop (mkF m 57 #[.val (.int rr), .val (.ref b1), .val (.ref b2), .val (.ref b3), .val (.ref b4)] [(.int ic)])) _
      refine XS.ifYes X0.here hx rfl (pc0 := 57) (pc' := 72) rfl (hb hby d7_57) rfl ((if0 _ _).trans (teq hq).1) (by decide) (by decide) ?_
      show Steps p.tables e below (s₁.setTop (mkF m 72 #[.val (.int rr), .val (.ref b1), .val (.ref b2), .val (.ref b3), .val (.ref b4)] [])) _
      exact kt
    · show Steps p.tables e below (s₁.setTop (mkF m 57 #[.val (.int rr), .val (.ref b1), .val (.ref b2), .val (.ref b3), .val (.ref b4)] [(.int ic)])) _
      refine XS.ifNo X0.here hx rfl (hb hby d7_57) rfl ((if0 _ _).trans (feq hq).1) ?_
      refine XS.aload X0.here hx rfl (hb hby d7_60) rfl rfl ?_
      refine XS.iconst X0.here hx rfl (hb hby d7_62) ?_
      refine X0.iaload hx (j := (2 : Int32)) (v := (.int r2)) (by rw [e0]; exact Arq14.1) (State.isArrayOf_alike hZ.alike Arq14.2.1) Arq14.2.2 (inb_of Sq14 ⟨by decide, by decide⟩) (Has.at Hq14 (inb_of Sq14 ⟨by decide, by decide⟩) rfl) (g := (mkF m 63 #[.val (.int rr), .val (.ref b1), .val (.ref b2), .val (.ref b3), .val (.ref b4)] [(.int (2 : Int32)), (.ref b4)])) rfl rfl (hb hby d7_63) _ ?_
      show Steps p.tables e below (s₁.setTop (mkF m 64 #[.val (.int rr), .val (.ref b1), .val (.ref b2), .val (.ref b3), .val (.ref b4)] [(.int r2)])) _
      refine XS.iloadN X0.here hx rfl (hb hby d7_64) rfl ?_
      show Steps p.tables e below (s₁.setTop (mkF m 65 #[.val (.int rr), .val (.ref b1), .val (.ref b2), .val (.ref b3), .val (.ref b4)] [(.int rr), (.int r2)])) _
      refine XS.icmpYes X0.here hx rfl (pc0 := 65) (pc' := 72) rfl (hb hby d7_65) rfl (feq (hm4 hq : ¬ (r2 = rr))).2 (by decide) (by decide) ?_
      show Steps p.tables e below (s₁.setTop (mkF m 72 #[.val (.int rr), .val (.ref b1), .val (.ref b2), .val (.ref b3), .val (.ref b4)] [])) _
      exact kt
  obtain ⟨fs, hr, hrun, hended, hW, hsame⟩ := X0.leave (v := some (.int (0 : Int32))) (fun h => by rw [Bd.returns] at h; cases h)
  refine ⟨_, _, pre0 _ ?_, hrun, hended, _, _, rfl, ?_, ⟨_, rfl⟩, hW, hsame.mono (by decide) (by decide)⟩
  · show Steps p.tables e below (s₁.setTop (mkF m 0 #[.val (.int rr), .val (.ref b1), .val (.ref b2), .val (.ref b3), .val (.ref b4)] [])) _
    refine XS.aloadN X0.here hx rfl (hb hby d7_0) rfl rfl ?_
    refine XS.iconst X0.here hx rfl (hb hby d7_1) ?_
    refine X0.baloadBooleans hx (j := (0 : Int32)) (v := (.int pa)) (by rw [e0]; exact Arq1.1) (State.isArrayOf_alike hZ.alike Arq1.2.1) Arq1.2.2 (inb_of Sq1 ⟨by decide, by decide⟩) (Has.at Hq1 (inb_of Sq1 ⟨by decide, by decide⟩) rfl) (g := (mkF m 2 #[.val (.int rr), .val (.ref b1), .val (.ref b2), .val (.ref b3), .val (.ref b4)] [(.int (0 : Int32)), (.ref b1)])) rfl rfl (hb hby d7_2) _ ?_
    show Steps p.tables e below (s₁.setTop (mkF m 3 #[.val (.int rr), .val (.ref b1), .val (.ref b2), .val (.ref b3), .val (.ref b4)] [(.int pa)])) _
    refine jn3 _ ?_
    show Steps p.tables e below (s₁.setTop (mkF m 13 #[.val (.int rr), .val (.ref b1), .val (.ref b2), .val (.ref b3), .val (.ref b4)] [])) _
    refine XS.aloadN X0.here hx rfl (hb hby d7_13) rfl rfl ?_
    refine XS.iconst X0.here hx rfl (hb hby d7_14) ?_
    refine X0.baloadBooleans hx (j := (1 : Int32)) (v := (.int pb)) (by rw [e0]; exact Arq4.1) (State.isArrayOf_alike hZ.alike Arq4.2.1) Arq4.2.2 (inb_of Sq4 ⟨by decide, by decide⟩) (Has.at Hq4 (inb_of Sq4 ⟨by decide, by decide⟩) rfl) (g := (mkF m 15 #[.val (.int rr), .val (.ref b1), .val (.ref b2), .val (.ref b3), .val (.ref b4)] [(.int (1 : Int32)), (.ref b1)])) rfl rfl (hb hby d7_15) _ ?_
    show Steps p.tables e below (s₁.setTop (mkF m 16 #[.val (.int rr), .val (.ref b1), .val (.ref b2), .val (.ref b3), .val (.ref b4)] [(.int pb)])) _
    refine jn6 _ ?_
    show Steps p.tables e below (s₁.setTop (mkF m 26 #[.val (.int rr), .val (.ref b1), .val (.ref b2), .val (.ref b3), .val (.ref b4)] [])) _
    refine XS.aloadN X0.here hx rfl (hb hby d7_26) rfl rfl ?_
    show Steps p.tables e below (s₁.setTop (mkF m 27 #[.val (.int rr), .val (.ref b1), .val (.ref b2), .val (.ref b3), .val (.ref b4)] [(.ref b3)])) _
    refine XS.iconst X0.here hx rfl (hb hby d7_27) ?_
    refine X0.baloadBooleans hx (j := (0 : Int32)) (v := (.int ia)) (by rw [e0]; exact Arq7.1) (State.isArrayOf_alike hZ.alike Arq7.2.1) Arq7.2.2 (inb_of Sq7 ⟨by decide, by decide⟩) (Has.at Hq7 (inb_of Sq7 ⟨by decide, by decide⟩) rfl) (g := (mkF m 28 #[.val (.int rr), .val (.ref b1), .val (.ref b2), .val (.ref b3), .val (.ref b4)] [(.int (0 : Int32)), (.ref b3)])) rfl rfl (hb hby d7_28) _ ?_
    show Steps p.tables e below (s₁.setTop (mkF m 29 #[.val (.int rr), .val (.ref b1), .val (.ref b2), .val (.ref b3), .val (.ref b4)] [(.int ia)])) _
    refine jn9 _ ?_
    show Steps p.tables e below (s₁.setTop (mkF m 40 #[.val (.int rr), .val (.ref b1), .val (.ref b2), .val (.ref b3), .val (.ref b4)] [])) _
    refine XS.aloadN X0.here hx rfl (hb hby d7_40) rfl rfl ?_
    refine XS.iconst X0.here hx rfl (hb hby d7_41) ?_
    show Steps p.tables e below (s₁.setTop (mkF m 42 #[.val (.int rr), .val (.ref b1), .val (.ref b2), .val (.ref b3), .val (.ref b4)] [(.int (1 : Int32)), (.ref b3)])) _
    refine X0.baloadBooleans hx (j := (1 : Int32)) (v := (.int ib)) (by rw [e0]; exact Arq10.1) (State.isArrayOf_alike hZ.alike Arq10.2.1) Arq10.2.2 (inb_of Sq10 ⟨by decide, by decide⟩) (Has.at Hq10 (inb_of Sq10 ⟨by decide, by decide⟩) rfl) (g := (mkF m 42 #[.val (.int rr), .val (.ref b1), .val (.ref b2), .val (.ref b3), .val (.ref b4)] [(.int (1 : Int32)), (.ref b3)])) rfl rfl (hb hby d7_42) _ ?_
    show Steps p.tables e below (s₁.setTop (mkF m 43 #[.val (.int rr), .val (.ref b1), .val (.ref b2), .val (.ref b3), .val (.ref b4)] [(.int ib)])) _
    refine jn12 _ ?_
    show Steps p.tables e below (s₁.setTop (mkF m 54 #[.val (.int rr), .val (.ref b1), .val (.ref b2), .val (.ref b3), .val (.ref b4)] [])) _
    refine XS.aloadN X0.here hx rfl (hb hby d7_54) rfl rfl ?_
    refine XS.iconst X0.here hx rfl (hb hby d7_55) ?_
    refine X0.baloadBooleans hx (j := (2 : Int32)) (v := (.int ic)) (by rw [e0]; exact Arq13.1) (State.isArrayOf_alike hZ.alike Arq13.2.1) Arq13.2.2 (inb_of Sq13 ⟨by decide, by decide⟩) (Has.at Hq13 (inb_of Sq13 ⟨by decide, by decide⟩) rfl) (g := (mkF m 56 #[.val (.int rr), .val (.ref b1), .val (.ref b2), .val (.ref b3), .val (.ref b4)] [(.int (2 : Int32)), (.ref b3)])) rfl rfl (hb hby d7_56) _ ?_
    show Steps p.tables e below (s₁.setTop (mkF m 57 #[.val (.int rr), .val (.ref b1), .val (.ref b2), .val (.ref b3), .val (.ref b4)] [(.int ic)])) _
    refine jn15 _ ?_
    show Steps p.tables e below (s₁.setTop (mkF m 72 #[.val (.int rr), .val (.ref b1), .val (.ref b2), .val (.ref b3), .val (.ref b4)] [])) _
    refine XS.iconst X0.here hx rfl (hb hby d7_72) ?_
    exact retN X0 hx (t := .boolean) Bd.returns (by simp) (hb hby d7_73) hr
  · show Q_le5 Z rr b1 b2 b3 b4 g1 g2 g3 g4 pa pb i1 i2 ia ib ic r0 r1 r2 h0 n0 _ s₁.heap _
    rw [e0]
    exact ⟨rfl, N0, rfl⟩
def Q_leM (Z : State) (rr : Int32) (b1 : Addr) (b2 : Addr) (b3 : Addr) (b4 : Addr) (g1 : ClassId) (g2 : ClassId) (g3 : ClassId) (g4 : ClassId) (pa : Int32) (pb : Int32) (i1 : Int32) (i2 : Int32) (ia : Int32) (ib : Int32) (ic : Int32) (r0 : Int32) (r1 : Int32) (r2 : Int32) (lz : Int32) (h0 : Heap) (n0 : Nat) (v : Option Value) (h : Heap) (L : List Loc) : Prop := v = some (.int lz) ∧ Fr n0 L ∧ h = h0
set_option maxHeartbeats 40000000 in
theorem leM (l : Launch) (Z : State) (a0 : Array Value) (hw : ∀ d ∈ tables_1, d.before a0 Z = true) (ws : List Jvm.Cond) (rr : Int32) (b1 : Addr) (b2 : Addr) (b3 : Addr) (b4 : Addr) (g1 : ClassId) (g2 : ClassId) (g3 : ClassId) (g4 : ClassId) (pa : Int32) (pb : Int32) (i1 : Int32) (i2 : Int32) (ia : Int32) (ib : Int32) (ic : Int32) (r0 : Int32) (r1 : Int32) (r2 : Int32) (lz : Int32) (h0 : Heap) (n0 : Nat) (Z0 : n0 ≤ h0.size) (V_b1 : Arv Z h0 b1 g1 .boolean (2 : Int32) [(.int pa), (.int pb)] (.int (0 : Int32))) (V_b2 : Arv Z h0 b2 g2 .int (2 : Int32) [(.int i1), (.int i2)] (.int (0 : Int32))) (V_b3 : Arv Z h0 b3 g3 .boolean (3 : Int32) [(.int ia), (.int ib), (.int ic)] (.int (0 : Int32))) (V_b4 : Arv Z h0 b4 g4 .int (3 : Int32) [(.int r0), (.int r1), (.int r2)] (.int (0 : Int32))) (hlz : lz = Jvm.OwnSC.le rr pa pb i1 i2 ia ib ic r0 r1 r2) :
    MetFree l (⟨"com/example/leeway/leeway/lp/SparseColumnSubtractPinLaw", "listedExpected", "(I[Z[I[Z[I)Z"⟩ : MethodName) (head1 (Jvm.Cond.code (⟨"com/example/leeway/leeway/lp/SparseColumnSubtractPinLaw", "listedExpected", "(I[Z[I[Z[I)Z"⟩ : MethodName) method_3_code 5 (some .boolean) :: ws) ({ frames := 0, cells := 0, slots := 0, locals := 0 } : Room)) (fun a U => a = #[(.int rr), (.ref b1), (.ref b2), (.ref b3), (.ref b4)] ∧ Z.Warmed39 U.vm ∧ U.heap = h0) (fun _ _ _ _ _ => True) (fun _ U o U' => ∃ v L, o = .returned v ∧ Q_leM Z rr b1 b2 b3 b4 g1 g2 g3 g4 pa pb i1 i2 ia ib ic r0 r1 r2 lz h0 n0 v U'.heap L ∧ FrameEnd U o U' L ({ frames := 0, cells := 0, slots := 0, locals := 0 } : Room).cells ({ frames := 0, cells := 0, slots := 0, locals := 0 } : Room).slots) := by
  by_cases z0 : ¬ (pa = (0 : Int32)) ∧ i1 = rr
  · obtain rfl := hlz.trans (if_pos (Or.inl z0))
    exact le0 l Z a0 hw ws rr b1 b2 b3 b4 g1 g2 g3 g4 pa pb i1 i2 ia ib ic r0 r1 r2 h0 n0 Z0 (V_b1 := V_b1) (V_b2 := V_b2) (V_b3 := V_b3) (V_b4 := V_b4) (hfl := z0.1) (hre := z0.2) 
  by_cases z1 : ¬ (pb = (0 : Int32)) ∧ i2 = rr
  · obtain rfl := hlz.trans (if_pos (Or.inr (Or.inl z1)))
    exact le1 l Z a0 hw ws rr b1 b2 b3 b4 g1 g2 g3 g4 pa pb i1 i2 ia ib ic r0 r1 r2 h0 n0 Z0 (V_b1 := V_b1) (V_b2 := V_b2) (V_b3 := V_b3) (V_b4 := V_b4) (hfl := z1.1) (hre := z1.2) (hm0 := fun a b => z0 ⟨a, b⟩)
  by_cases z2 : ¬ (ia = (0 : Int32)) ∧ r0 = rr
  · obtain rfl := hlz.trans (if_pos (Or.inr (Or.inr (Or.inl z2))))
    exact le2 l Z a0 hw ws rr b1 b2 b3 b4 g1 g2 g3 g4 pa pb i1 i2 ia ib ic r0 r1 r2 h0 n0 Z0 (V_b1 := V_b1) (V_b2 := V_b2) (V_b3 := V_b3) (V_b4 := V_b4) (hfl := z2.1) (hre := z2.2) (hm0 := fun a b => z0 ⟨a, b⟩) (hm1 := fun a b => z1 ⟨a, b⟩)
  by_cases z3 : ¬ (ib = (0 : Int32)) ∧ r1 = rr
  · obtain rfl := hlz.trans (if_pos (Or.inr (Or.inr (Or.inr (Or.inl z3)))))
    exact le3 l Z a0 hw ws rr b1 b2 b3 b4 g1 g2 g3 g4 pa pb i1 i2 ia ib ic r0 r1 r2 h0 n0 Z0 (V_b1 := V_b1) (V_b2 := V_b2) (V_b3 := V_b3) (V_b4 := V_b4) (hfl := z3.1) (hre := z3.2) (hm0 := fun a b => z0 ⟨a, b⟩) (hm1 := fun a b => z1 ⟨a, b⟩) (hm2 := fun a b => z2 ⟨a, b⟩)
  by_cases z4 : ¬ (ic = (0 : Int32)) ∧ r2 = rr
  · obtain rfl := hlz.trans (if_pos (Or.inr (Or.inr (Or.inr (Or.inr (z4))))))
    exact le4 l Z a0 hw ws rr b1 b2 b3 b4 g1 g2 g3 g4 pa pb i1 i2 ia ib ic r0 r1 r2 h0 n0 Z0 (V_b1 := V_b1) (V_b2 := V_b2) (V_b3 := V_b3) (V_b4 := V_b4) (hfl := z4.1) (hre := z4.2) (hm0 := fun a b => z0 ⟨a, b⟩) (hm1 := fun a b => z1 ⟨a, b⟩) (hm2 := fun a b => z2 ⟨a, b⟩) (hm3 := fun a b => z3 ⟨a, b⟩)
  obtain rfl := hlz.trans (if_neg (fun q => q.elim z0 fun q => q.elim z1 fun q => q.elim z2 fun q => q.elim z3 z4))
  exact le5 l Z a0 hw ws rr b1 b2 b3 b4 g1 g2 g3 g4 pa pb i1 i2 ia ib ic r0 r1 r2 h0 n0 Z0 (V_b1 := V_b1) (V_b2 := V_b2) (V_b3 := V_b3) (V_b4 := V_b4) (hm0 := fun a b => z0 ⟨a, b⟩) (hm1 := fun a b => z1 ⟨a, b⟩) (hm2 := fun a b => z2 ⟨a, b⟩) (hm3 := fun a b => z3 ⟨a, b⟩) (hm4 := fun a b => z4 ⟨a, b⟩)
theorem d8_0 : decode method_5_code 0 = .ok (.iload_n 1, 1) := by decide +kernel
theorem d8_1 : decode method_5_code 1 = .ok (.ifCond .le 10, 3) := by decide +kernel
theorem d8_4 : decode method_5_code 4 = .ok (.aload_n 0, 1) := by decide +kernel
theorem d8_5 : decode method_5_code 5 = .ok (.iconst 0, 1) := by decide +kernel
theorem d8_6 : decode method_5_code 6 = .ok (.iaload, 1) := by decide +kernel
theorem d8_7 : decode method_5_code 7 = .ok (.iload_n 2, 1) := by decide +kernel
theorem d8_8 : decode method_5_code 8 = .ok (.if_icmp .eq 39, 3) := by decide +kernel
theorem d8_47 : decode method_5_code 47 = .ok (.iconst 1, 1) := by decide +kernel
theorem d8_48 : decode method_5_code 48 = .ok (.goto 4, 3) := by decide +kernel
theorem d8_52 : decode method_5_code 52 = .ok (.ireturn, 1) := by decide +kernel
theorem ef_8_RII (m : MethodId) (x0 : Addr) (x1 : Int32) (x2 : Int32) : entryFrame m #[(.ref x0), (.int x1), (.int x2)] 3 = mkF m 0 #[.val (.ref x0), .val (.int x1), .val (.int x2)] [] := by first | (simp [entryFrame, mkF, argsToLocals, Value.category]; done) | rfl
def Q_pr0 (Z : State) (w0 : Addr) (cc : Int32) (rr : Int32) (kw : ClassId) (q0 : Int32) (q1 : Int32) (q2 : Int32) (q3 : Int32) (h0 : Heap) (n0 : Nat) (v : Option Value) (h : Heap) (L : List Loc) : Prop := v = some (.int (1 : Int32)) ∧ Fr n0 L ∧ h = h0
set_option maxRecDepth 65536 in
set_option maxHeartbeats 40000000 in
theorem pr0 (l : Launch) (Z : State) (a0 : Array Value) (hw : ∀ d ∈ tables_1, d.before a0 Z = true) (ws : List Jvm.Cond) (w0 : Addr) (cc : Int32) (rr : Int32) (kw : ClassId) (q0 : Int32) (q1 : Int32) (q2 : Int32) (q3 : Int32) (h0 : Heap) (n0 : Nat) (Z0 : n0 ≤ h0.size) (V_w0 : Arv Z h0 w0 kw .int (4 : Int32) [(.int q0), (.int q1), (.int q2), (.int q3)] (.int (0 : Int32))) (hfl : (0 : Int32) < cc) (hre : q0 = rr) :
    MetFree l (⟨"com/example/leeway/leeway/lp/SparseColumnSubtractPinLaw", "present", "([III)Z"⟩ : MethodName) (head1 (Jvm.Cond.code (⟨"com/example/leeway/leeway/lp/SparseColumnSubtractPinLaw", "present", "([III)Z"⟩ : MethodName) method_5_code 3 (some .boolean) :: ws) ({ frames := 0, cells := 0, slots := 0, locals := 0 } : Room)) (fun a U => a = #[(.ref w0), (.int cc), (.int rr)] ∧ Z.Warmed39 U.vm ∧ U.heap = h0) (fun _ _ _ _ _ => True) (fun _ U o U' => ∃ v L, o = .returned v ∧ Q_pr0 Z w0 cc rr kw q0 q1 q2 q3 h0 n0 v U'.heap L ∧ FrameEnd U o U' L ({ frames := 0, cells := 0, slots := 0, locals := 0 } : Room).cells ({ frames := 0, cells := 0, slots := 0, locals := 0 } : Room).slots) := by
  refine MetFree.of_bodySF (plainFor_of_name pn_com_example_leeway_leeway_lp_SparseColumnSubtractPinLaw) hisR ?_
  intro p e s m args below meth c s₁ Bd hml0 hP hK
  obtain ⟨rfl, hZ, hh⟩ := hP
  have hx := Bd.exec
  have hby := Bd.bytes
  have hml : c.maxLocals = 3 := hml0
  have hown : s.vm.findClass "com/example/leeway/leeway/lp/SparseColumnSubtractPinLaw" = some m.cls := findClass_of_methodNamed Bd.named
  have hnm := (name_of_methodNamed Bd.named Bd.method).1
  have X0 : Stand p l e ({ frames := 0, cells := 0, slots := 0, locals := 0 } : Room) s m #[(.ref w0), (.int cc), (.int rr)] below meth c s₁ [] 0 0 := Stand.of_body Bd
  have e0 : s₁.heap = h0 := by rw [← hh, Bd.state]; rfl
  have N0 := Fr.nil n0
  have pre0 : ∀ t, Steps p.tables e below (s₁.setTop (mkF m 0 #[.val (.ref w0), .val (.int cc), .val (.int rr)] [])) t → Steps p.tables e below (s₁.setTop (entryFrame m #[(.ref w0), (.int cc), (.int rr)] 3)) t := fun t k => castTop (ef_8_RII m w0 cc rr) k
  obtain ⟨cq1, Arq1, -, Sq1, -, Hq1, -⟩ := id V_w0
  obtain ⟨fs, hr, hrun, hended, hW, hsame⟩ := X0.leave (v := some (.int (1 : Int32))) (fun h => by rw [Bd.returns] at h; cases h)
  refine ⟨_, _, pre0 _ ?_, hrun, hended, _, _, rfl, ?_, ⟨_, rfl⟩, hW, hsame.mono (by decide) (by decide)⟩
  · show Steps p.tables e below (s₁.setTop (mkF m 0 #[.val (.ref w0), .val (.int cc), .val (.int rr)] [])) _
    refine XS.iloadN X0.here hx rfl (hb hby d8_0) rfl ?_
    refine XS.ifNo X0.here hx rfl (hb hby d8_1) rfl ((if0 _ _).trans (tlt (hfl : (0 : Int32) < cc)).2.2.2) ?_
    refine XS.aloadN X0.here hx rfl (hb hby d8_4) rfl rfl ?_
    refine XS.iconst X0.here hx rfl (hb hby d8_5) ?_
    refine X0.iaload hx (j := (0 : Int32)) (v := (.int q0)) (by rw [e0]; exact Arq1.1) (State.isArrayOf_alike hZ.alike Arq1.2.1) Arq1.2.2 (inb_of Sq1 ⟨by decide, by decide⟩) (Has.at Hq1 (inb_of Sq1 ⟨by decide, by decide⟩) rfl) (g := (mkF m 6 #[.val (.ref w0), .val (.int cc), .val (.int rr)] [(.int (0 : Int32)), (.ref w0)])) rfl rfl (hb hby d8_6) _ ?_
    show Steps p.tables e below (s₁.setTop (mkF m 7 #[.val (.ref w0), .val (.int cc), .val (.int rr)] [(.int q0)])) _
    refine XS.iloadN X0.here hx rfl (hb hby d8_7) rfl ?_
    refine XS.icmpYes X0.here hx rfl (pc0 := 8) (pc' := 47) rfl (hb hby d8_8) rfl (teq (hre : q0 = rr)).1 (by decide) (by decide) ?_
    refine XS.iconst X0.here hx rfl (hb hby d8_47) ?_
    refine XS.goto X0.here hx rfl (pc0 := 48) (pc' := 52) rfl (hb hby d8_48) (by decide) (by decide) ?_
    exact retN X0 hx (t := .boolean) Bd.returns (by simp) (hb hby d8_52) hr
  · show Q_pr0 Z w0 cc rr kw q0 q1 q2 q3 h0 n0 _ s₁.heap _
    rw [e0]
    exact ⟨rfl, N0, rfl⟩
theorem d8_11 : decode method_5_code 11 = .ok (.iload_n 1, 1) := by decide +kernel
theorem d8_12 : decode method_5_code 12 = .ok (.iconst 1, 1) := by decide +kernel
theorem d8_13 : decode method_5_code 13 = .ok (.if_icmp .le 10, 3) := by decide +kernel
theorem d8_16 : decode method_5_code 16 = .ok (.aload_n 0, 1) := by decide +kernel
theorem d8_17 : decode method_5_code 17 = .ok (.iconst 1, 1) := by decide +kernel
theorem d8_18 : decode method_5_code 18 = .ok (.iaload, 1) := by decide +kernel
theorem d8_19 : decode method_5_code 19 = .ok (.iload_n 2, 1) := by decide +kernel
theorem d8_20 : decode method_5_code 20 = .ok (.if_icmp .eq 27, 3) := by decide +kernel
def Q_pr1 (Z : State) (w0 : Addr) (cc : Int32) (rr : Int32) (kw : ClassId) (q0 : Int32) (q1 : Int32) (q2 : Int32) (q3 : Int32) (h0 : Heap) (n0 : Nat) (v : Option Value) (h : Heap) (L : List Loc) : Prop := v = some (.int (1 : Int32)) ∧ Fr n0 L ∧ h = h0
set_option maxRecDepth 65536 in
set_option maxHeartbeats 40000000 in
theorem pr1 (l : Launch) (Z : State) (a0 : Array Value) (hw : ∀ d ∈ tables_1, d.before a0 Z = true) (ws : List Jvm.Cond) (w0 : Addr) (cc : Int32) (rr : Int32) (kw : ClassId) (q0 : Int32) (q1 : Int32) (q2 : Int32) (q3 : Int32) (h0 : Heap) (n0 : Nat) (Z0 : n0 ≤ h0.size) (V_w0 : Arv Z h0 w0 kw .int (4 : Int32) [(.int q0), (.int q1), (.int q2), (.int q3)] (.int (0 : Int32))) (hm0 : (0 : Int32) < cc → ¬ (q0 = rr)) (hfl : (1 : Int32) < cc) (hre : q1 = rr) :
    MetFree l (⟨"com/example/leeway/leeway/lp/SparseColumnSubtractPinLaw", "present", "([III)Z"⟩ : MethodName) (head1 (Jvm.Cond.code (⟨"com/example/leeway/leeway/lp/SparseColumnSubtractPinLaw", "present", "([III)Z"⟩ : MethodName) method_5_code 3 (some .boolean) :: ws) ({ frames := 0, cells := 0, slots := 0, locals := 0 } : Room)) (fun a U => a = #[(.ref w0), (.int cc), (.int rr)] ∧ Z.Warmed39 U.vm ∧ U.heap = h0) (fun _ _ _ _ _ => True) (fun _ U o U' => ∃ v L, o = .returned v ∧ Q_pr1 Z w0 cc rr kw q0 q1 q2 q3 h0 n0 v U'.heap L ∧ FrameEnd U o U' L ({ frames := 0, cells := 0, slots := 0, locals := 0 } : Room).cells ({ frames := 0, cells := 0, slots := 0, locals := 0 } : Room).slots) := by
  refine MetFree.of_bodySF (plainFor_of_name pn_com_example_leeway_leeway_lp_SparseColumnSubtractPinLaw) hisR ?_
  intro p e s m args below meth c s₁ Bd hml0 hP hK
  obtain ⟨rfl, hZ, hh⟩ := hP
  have hx := Bd.exec
  have hby := Bd.bytes
  have hml : c.maxLocals = 3 := hml0
  have hown : s.vm.findClass "com/example/leeway/leeway/lp/SparseColumnSubtractPinLaw" = some m.cls := findClass_of_methodNamed Bd.named
  have hnm := (name_of_methodNamed Bd.named Bd.method).1
  have X0 : Stand p l e ({ frames := 0, cells := 0, slots := 0, locals := 0 } : Room) s m #[(.ref w0), (.int cc), (.int rr)] below meth c s₁ [] 0 0 := Stand.of_body Bd
  have e0 : s₁.heap = h0 := by rw [← hh, Bd.state]; rfl
  have N0 := Fr.nil n0
  have pre0 : ∀ t, Steps p.tables e below (s₁.setTop (mkF m 0 #[.val (.ref w0), .val (.int cc), .val (.int rr)] [])) t → Steps p.tables e below (s₁.setTop (entryFrame m #[(.ref w0), (.int cc), (.int rr)] 3)) t := fun t k => castTop (ef_8_RII m w0 cc rr) k
  obtain ⟨cq1, Arq1, -, Sq1, -, Hq1, -⟩ := id V_w0
  have jn2 : ∀ target, Steps p.tables e below (s₁.setTop (mkF m 11 #[.val (.ref w0), .val (.int cc), .val (.int rr)] [])) target → Steps p.tables e below (s₁.setTop (mkF m 1 #[.val (.ref w0), .val (.int cc), .val (.int rr)] [(.int cc)])) target := by
    intro target kt
    by_cases hq : (0 : Int32) < cc
    · show Steps p.tables e below (s₁.setTop (mkF m 1 #[.val (.ref w0), .val (.int cc), .val (.int rr)] [(.int cc)])) _
      refine XS.ifNo X0.here hx rfl (hb hby d8_1) rfl ((if0 _ _).trans (tlt hq).2.2.2) ?_
      refine XS.aloadN X0.here hx rfl (hb hby d8_4) rfl rfl ?_
      refine XS.iconst X0.here hx rfl (hb hby d8_5) ?_
      refine X0.iaload hx (j := (0 : Int32)) (v := (.int q0)) (by rw [e0]; exact Arq1.1) (State.isArrayOf_alike hZ.alike Arq1.2.1) Arq1.2.2 (inb_of Sq1 ⟨by decide, by decide⟩) (Has.at Hq1 (inb_of Sq1 ⟨by decide, by decide⟩) rfl) (g := (mkF m 6 #[.val (.ref w0), .val (.int cc), .val (.int rr)] [(.int (0 : Int32)), (.ref w0)])) rfl rfl (hb hby d8_6) _ ?_
      show Steps p.tables e below (s₁.setTop (mkF m 7 #[.val (.ref w0), .val (.int cc), .val (.int rr)] [(.int q0)])) _
      refine XS.iloadN X0.here hx rfl (hb hby d8_7) rfl ?_
      refine XS.icmpNo X0.here hx rfl (hb hby d8_8) rfl (feq (hm0 hq : ¬ (q0 = rr))).1 ?_
      show Steps p.tables e below (s₁.setTop (mkF m 11 #[.val (.ref w0), .val (.int cc), .val (.int rr)] [])) _
      exact kt
    · show Steps p.tables e below (s₁.setTop (mkF m 1 #[.val (.ref w0), .val (.int cc), .val (.int rr)] [(.int cc)])) _
      refine XS.ifYes X0.here hx rfl (pc0 := 1) (pc' := 11) rfl (hb hby d8_1) rfl ((if0 _ _).trans (flt hq).2.2.2) (by decide) (by decide) ?_
      show Steps p.tables e below (s₁.setTop (mkF m 11 #[.val (.ref w0), .val (.int cc), .val (.int rr)] [])) _
      exact kt
  obtain ⟨cq3, Arq3, -, Sq3, -, Hq3, -⟩ := id V_w0
  obtain ⟨fs, hr, hrun, hended, hW, hsame⟩ := X0.leave (v := some (.int (1 : Int32))) (fun h => by rw [Bd.returns] at h; cases h)
  refine ⟨_, _, pre0 _ ?_, hrun, hended, _, _, rfl, ?_, ⟨_, rfl⟩, hW, hsame.mono (by decide) (by decide)⟩
  · show Steps p.tables e below (s₁.setTop (mkF m 0 #[.val (.ref w0), .val (.int cc), .val (.int rr)] [])) _
    refine XS.iloadN X0.here hx rfl (hb hby d8_0) rfl ?_
    show Steps p.tables e below (s₁.setTop (mkF m 1 #[.val (.ref w0), .val (.int cc), .val (.int rr)] [(.int cc)])) _
    refine jn2 _ ?_
    show Steps p.tables e below (s₁.setTop (mkF m 11 #[.val (.ref w0), .val (.int cc), .val (.int rr)] [])) _
    refine XS.iloadN X0.here hx rfl (hb hby d8_11) rfl ?_
    refine XS.iconst X0.here hx rfl (hb hby d8_12) ?_
    show Steps p.tables e below (s₁.setTop (mkF m 13 #[.val (.ref w0), .val (.int cc), .val (.int rr)] [(.int (1 : Int32)), (.int cc)])) _
    refine XS.icmpNo X0.here hx rfl (hb hby d8_13) rfl (tlt (hfl : (1 : Int32) < cc)).2.2.2 ?_
    refine XS.aloadN X0.here hx rfl (hb hby d8_16) rfl rfl ?_
    refine XS.iconst X0.here hx rfl (hb hby d8_17) ?_
    refine X0.iaload hx (j := (1 : Int32)) (v := (.int q1)) (by rw [e0]; exact Arq3.1) (State.isArrayOf_alike hZ.alike Arq3.2.1) Arq3.2.2 (inb_of Sq3 ⟨by decide, by decide⟩) (Has.at Hq3 (inb_of Sq3 ⟨by decide, by decide⟩) rfl) (g := (mkF m 18 #[.val (.ref w0), .val (.int cc), .val (.int rr)] [(.int (1 : Int32)), (.ref w0)])) rfl rfl (hb hby d8_18) _ ?_
    show Steps p.tables e below (s₁.setTop (mkF m 19 #[.val (.ref w0), .val (.int cc), .val (.int rr)] [(.int q1)])) _
    refine XS.iloadN X0.here hx rfl (hb hby d8_19) rfl ?_
    refine XS.icmpYes X0.here hx rfl (pc0 := 20) (pc' := 47) rfl (hb hby d8_20) rfl (teq (hre : q1 = rr)).1 (by decide) (by decide) ?_
    show Steps p.tables e below (s₁.setTop (mkF m 47 #[.val (.ref w0), .val (.int cc), .val (.int rr)] [])) _
    refine XS.iconst X0.here hx rfl (hb hby d8_47) ?_
    refine XS.goto X0.here hx rfl (pc0 := 48) (pc' := 52) rfl (hb hby d8_48) (by decide) (by decide) ?_
    exact retN X0 hx (t := .boolean) Bd.returns (by simp) (hb hby d8_52) hr
  · show Q_pr1 Z w0 cc rr kw q0 q1 q2 q3 h0 n0 _ s₁.heap _
    rw [e0]
    exact ⟨rfl, N0, rfl⟩
theorem d8_23 : decode method_5_code 23 = .ok (.iload_n 1, 1) := by decide +kernel
theorem d8_24 : decode method_5_code 24 = .ok (.iconst 2, 1) := by decide +kernel
theorem d8_25 : decode method_5_code 25 = .ok (.if_icmp .le 10, 3) := by decide +kernel
theorem d8_28 : decode method_5_code 28 = .ok (.aload_n 0, 1) := by decide +kernel
theorem d8_29 : decode method_5_code 29 = .ok (.iconst 2, 1) := by decide +kernel
theorem d8_30 : decode method_5_code 30 = .ok (.iaload, 1) := by decide +kernel
theorem d8_31 : decode method_5_code 31 = .ok (.iload_n 2, 1) := by decide +kernel
theorem d8_32 : decode method_5_code 32 = .ok (.if_icmp .eq 15, 3) := by decide +kernel
def Q_pr2 (Z : State) (w0 : Addr) (cc : Int32) (rr : Int32) (kw : ClassId) (q0 : Int32) (q1 : Int32) (q2 : Int32) (q3 : Int32) (h0 : Heap) (n0 : Nat) (v : Option Value) (h : Heap) (L : List Loc) : Prop := v = some (.int (1 : Int32)) ∧ Fr n0 L ∧ h = h0
set_option maxRecDepth 65536 in
set_option maxHeartbeats 40000000 in
theorem pr2 (l : Launch) (Z : State) (a0 : Array Value) (hw : ∀ d ∈ tables_1, d.before a0 Z = true) (ws : List Jvm.Cond) (w0 : Addr) (cc : Int32) (rr : Int32) (kw : ClassId) (q0 : Int32) (q1 : Int32) (q2 : Int32) (q3 : Int32) (h0 : Heap) (n0 : Nat) (Z0 : n0 ≤ h0.size) (V_w0 : Arv Z h0 w0 kw .int (4 : Int32) [(.int q0), (.int q1), (.int q2), (.int q3)] (.int (0 : Int32))) (hm0 : (0 : Int32) < cc → ¬ (q0 = rr)) (hm1 : (1 : Int32) < cc → ¬ (q1 = rr)) (hfl : (2 : Int32) < cc) (hre : q2 = rr) :
    MetFree l (⟨"com/example/leeway/leeway/lp/SparseColumnSubtractPinLaw", "present", "([III)Z"⟩ : MethodName) (head1 (Jvm.Cond.code (⟨"com/example/leeway/leeway/lp/SparseColumnSubtractPinLaw", "present", "([III)Z"⟩ : MethodName) method_5_code 3 (some .boolean) :: ws) ({ frames := 0, cells := 0, slots := 0, locals := 0 } : Room)) (fun a U => a = #[(.ref w0), (.int cc), (.int rr)] ∧ Z.Warmed39 U.vm ∧ U.heap = h0) (fun _ _ _ _ _ => True) (fun _ U o U' => ∃ v L, o = .returned v ∧ Q_pr2 Z w0 cc rr kw q0 q1 q2 q3 h0 n0 v U'.heap L ∧ FrameEnd U o U' L ({ frames := 0, cells := 0, slots := 0, locals := 0 } : Room).cells ({ frames := 0, cells := 0, slots := 0, locals := 0 } : Room).slots) := by
  refine MetFree.of_bodySF (plainFor_of_name pn_com_example_leeway_leeway_lp_SparseColumnSubtractPinLaw) hisR ?_
  intro p e s m args below meth c s₁ Bd hml0 hP hK
  obtain ⟨rfl, hZ, hh⟩ := hP
  have hx := Bd.exec
  have hby := Bd.bytes
  have hml : c.maxLocals = 3 := hml0
  have hown : s.vm.findClass "com/example/leeway/leeway/lp/SparseColumnSubtractPinLaw" = some m.cls := findClass_of_methodNamed Bd.named
  have hnm := (name_of_methodNamed Bd.named Bd.method).1
  have X0 : Stand p l e ({ frames := 0, cells := 0, slots := 0, locals := 0 } : Room) s m #[(.ref w0), (.int cc), (.int rr)] below meth c s₁ [] 0 0 := Stand.of_body Bd
  have e0 : s₁.heap = h0 := by rw [← hh, Bd.state]; rfl
  have N0 := Fr.nil n0
  have pre0 : ∀ t, Steps p.tables e below (s₁.setTop (mkF m 0 #[.val (.ref w0), .val (.int cc), .val (.int rr)] [])) t → Steps p.tables e below (s₁.setTop (entryFrame m #[(.ref w0), (.int cc), (.int rr)] 3)) t := fun t k => castTop (ef_8_RII m w0 cc rr) k
  obtain ⟨cq1, Arq1, -, Sq1, -, Hq1, -⟩ := id V_w0
  have jn2 : ∀ target, Steps p.tables e below (s₁.setTop (mkF m 11 #[.val (.ref w0), .val (.int cc), .val (.int rr)] [])) target → Steps p.tables e below (s₁.setTop (mkF m 1 #[.val (.ref w0), .val (.int cc), .val (.int rr)] [(.int cc)])) target := by
    intro target kt
    by_cases hq : (0 : Int32) < cc
    · show Steps p.tables e below (s₁.setTop (mkF m 1 #[.val (.ref w0), .val (.int cc), .val (.int rr)] [(.int cc)])) _
      refine XS.ifNo X0.here hx rfl (hb hby d8_1) rfl ((if0 _ _).trans (tlt hq).2.2.2) ?_
      refine XS.aloadN X0.here hx rfl (hb hby d8_4) rfl rfl ?_
      refine XS.iconst X0.here hx rfl (hb hby d8_5) ?_
      refine X0.iaload hx (j := (0 : Int32)) (v := (.int q0)) (by rw [e0]; exact Arq1.1) (State.isArrayOf_alike hZ.alike Arq1.2.1) Arq1.2.2 (inb_of Sq1 ⟨by decide, by decide⟩) (Has.at Hq1 (inb_of Sq1 ⟨by decide, by decide⟩) rfl) (g := (mkF m 6 #[.val (.ref w0), .val (.int cc), .val (.int rr)] [(.int (0 : Int32)), (.ref w0)])) rfl rfl (hb hby d8_6) _ ?_
      show Steps p.tables e below (s₁.setTop (mkF m 7 #[.val (.ref w0), .val (.int cc), .val (.int rr)] [(.int q0)])) _
      refine XS.iloadN X0.here hx rfl (hb hby d8_7) rfl ?_
      refine XS.icmpNo X0.here hx rfl (hb hby d8_8) rfl (feq (hm0 hq : ¬ (q0 = rr))).1 ?_
      show Steps p.tables e below (s₁.setTop (mkF m 11 #[.val (.ref w0), .val (.int cc), .val (.int rr)] [])) _
      exact kt
    · show Steps p.tables e below (s₁.setTop (mkF m 1 #[.val (.ref w0), .val (.int cc), .val (.int rr)] [(.int cc)])) _
      refine XS.ifYes X0.here hx rfl (pc0 := 1) (pc' := 11) rfl (hb hby d8_1) rfl ((if0 _ _).trans (flt hq).2.2.2) (by decide) (by decide) ?_
      show Steps p.tables e below (s₁.setTop (mkF m 11 #[.val (.ref w0), .val (.int cc), .val (.int rr)] [])) _
      exact kt
  obtain ⟨cq3, Arq3, -, Sq3, -, Hq3, -⟩ := id V_w0
  have jn4 : ∀ target, Steps p.tables e below (s₁.setTop (mkF m 23 #[.val (.ref w0), .val (.int cc), .val (.int rr)] [])) target → Steps p.tables e below (s₁.setTop (mkF m 13 #[.val (.ref w0), .val (.int cc), .val (.int rr)] [(.int (1 : Int32)), (.int cc)])) target := by
    intro target kt
    by_cases hq : (1 : Int32) < cc
    · show Steps p.tables e below (s₁.setTop (mkF m 13 #[.val (.ref w0), .val (.int cc), .val (.int rr)] [(.int (1 : Int32)), (.int cc)])) _
      refine XS.icmpNo X0.here hx rfl (hb hby d8_13) rfl (tlt hq).2.2.2 ?_
      refine XS.aloadN X0.here hx rfl (hb hby d8_16) rfl rfl ?_
      refine XS.iconst X0.here hx rfl (hb hby d8_17) ?_
      refine X0.iaload hx (j := (1 : Int32)) (v := (.int q1)) (by rw [e0]; exact Arq3.1) (State.isArrayOf_alike hZ.alike Arq3.2.1) Arq3.2.2 (inb_of Sq3 ⟨by decide, by decide⟩) (Has.at Hq3 (inb_of Sq3 ⟨by decide, by decide⟩) rfl) (g := (mkF m 18 #[.val (.ref w0), .val (.int cc), .val (.int rr)] [(.int (1 : Int32)), (.ref w0)])) rfl rfl (hb hby d8_18) _ ?_
      show Steps p.tables e below (s₁.setTop (mkF m 19 #[.val (.ref w0), .val (.int cc), .val (.int rr)] [(.int q1)])) _
      refine XS.iloadN X0.here hx rfl (hb hby d8_19) rfl ?_
      refine XS.icmpNo X0.here hx rfl (hb hby d8_20) rfl (feq (hm1 hq : ¬ (q1 = rr))).1 ?_
      show Steps p.tables e below (s₁.setTop (mkF m 23 #[.val (.ref w0), .val (.int cc), .val (.int rr)] [])) _
      exact kt
    · show Steps p.tables e below (s₁.setTop (mkF m 13 #[.val (.ref w0), .val (.int cc), .val (.int rr)] [(.int (1 : Int32)), (.int cc)])) _
      refine XS.icmpYes X0.here hx rfl (pc0 := 13) (pc' := 23) rfl (hb hby d8_13) rfl (flt hq).2.2.2 (by decide) (by decide) ?_
      show Steps p.tables e below (s₁.setTop (mkF m 23 #[.val (.ref w0), .val (.int cc), .val (.int rr)] [])) _
      exact kt
  obtain ⟨cq5, Arq5, -, Sq5, -, Hq5, -⟩ := id V_w0
  obtain ⟨fs, hr, hrun, hended, hW, hsame⟩ := X0.leave (v := some (.int (1 : Int32))) (fun h => by rw [Bd.returns] at h; cases h)
  refine ⟨_, _, pre0 _ ?_, hrun, hended, _, _, rfl, ?_, ⟨_, rfl⟩, hW, hsame.mono (by decide) (by decide)⟩
  · show Steps p.tables e below (s₁.setTop (mkF m 0 #[.val (.ref w0), .val (.int cc), .val (.int rr)] [])) _
    refine XS.iloadN X0.here hx rfl (hb hby d8_0) rfl ?_
    show Steps p.tables e below (s₁.setTop (mkF m 1 #[.val (.ref w0), .val (.int cc), .val (.int rr)] [(.int cc)])) _
    refine jn2 _ ?_
    show Steps p.tables e below (s₁.setTop (mkF m 11 #[.val (.ref w0), .val (.int cc), .val (.int rr)] [])) _
    refine XS.iloadN X0.here hx rfl (hb hby d8_11) rfl ?_
    refine XS.iconst X0.here hx rfl (hb hby d8_12) ?_
    show Steps p.tables e below (s₁.setTop (mkF m 13 #[.val (.ref w0), .val (.int cc), .val (.int rr)] [(.int (1 : Int32)), (.int cc)])) _
    refine jn4 _ ?_
    show Steps p.tables e below (s₁.setTop (mkF m 23 #[.val (.ref w0), .val (.int cc), .val (.int rr)] [])) _
    refine XS.iloadN X0.here hx rfl (hb hby d8_23) rfl ?_
    refine XS.iconst X0.here hx rfl (hb hby d8_24) ?_
    refine XS.icmpNo X0.here hx rfl (hb hby d8_25) rfl (tlt (hfl : (2 : Int32) < cc)).2.2.2 ?_
    refine XS.aloadN X0.here hx rfl (hb hby d8_28) rfl rfl ?_
    show Steps p.tables e below (s₁.setTop (mkF m 29 #[.val (.ref w0), .val (.int cc), .val (.int rr)] [(.ref w0)])) _
    refine XS.iconst X0.here hx rfl (hb hby d8_29) ?_
    refine X0.iaload hx (j := (2 : Int32)) (v := (.int q2)) (by rw [e0]; exact Arq5.1) (State.isArrayOf_alike hZ.alike Arq5.2.1) Arq5.2.2 (inb_of Sq5 ⟨by decide, by decide⟩) (Has.at Hq5 (inb_of Sq5 ⟨by decide, by decide⟩) rfl) (g := (mkF m 30 #[.val (.ref w0), .val (.int cc), .val (.int rr)] [(.int (2 : Int32)), (.ref w0)])) rfl rfl (hb hby d8_30) _ ?_
    show Steps p.tables e below (s₁.setTop (mkF m 31 #[.val (.ref w0), .val (.int cc), .val (.int rr)] [(.int q2)])) _
    refine XS.iloadN X0.here hx rfl (hb hby d8_31) rfl ?_
    refine XS.icmpYes X0.here hx rfl (pc0 := 32) (pc' := 47) rfl (hb hby d8_32) rfl (teq (hre : q2 = rr)).1 (by decide) (by decide) ?_
    refine XS.iconst X0.here hx rfl (hb hby d8_47) ?_
    refine XS.goto X0.here hx rfl (pc0 := 48) (pc' := 52) rfl (hb hby d8_48) (by decide) (by decide) ?_
    show Steps p.tables e below (s₁.setTop (mkF m 52 #[.val (.ref w0), .val (.int cc), .val (.int rr)] [(.int (1 : Int32))])) _
    exact retN X0 hx (t := .boolean) Bd.returns (by simp) (hb hby d8_52) hr
  · show Q_pr2 Z w0 cc rr kw q0 q1 q2 q3 h0 n0 _ s₁.heap _
    rw [e0]
    exact ⟨rfl, N0, rfl⟩
theorem d8_35 : decode method_5_code 35 = .ok (.iload_n 1, 1) := by decide +kernel
theorem d8_36 : decode method_5_code 36 = .ok (.iconst 3, 1) := by decide +kernel
theorem d8_37 : decode method_5_code 37 = .ok (.if_icmp .le 14, 3) := by decide +kernel
theorem d8_40 : decode method_5_code 40 = .ok (.aload_n 0, 1) := by decide +kernel
theorem d8_41 : decode method_5_code 41 = .ok (.iconst 3, 1) := by decide +kernel
theorem d8_42 : decode method_5_code 42 = .ok (.iaload, 1) := by decide +kernel
theorem d8_43 : decode method_5_code 43 = .ok (.iload_n 2, 1) := by decide +kernel
theorem d8_44 : decode method_5_code 44 = .ok (.if_icmp .ne 7, 3) := by decide +kernel
def Q_pr3 (Z : State) (w0 : Addr) (cc : Int32) (rr : Int32) (kw : ClassId) (q0 : Int32) (q1 : Int32) (q2 : Int32) (q3 : Int32) (h0 : Heap) (n0 : Nat) (v : Option Value) (h : Heap) (L : List Loc) : Prop := v = some (.int (1 : Int32)) ∧ Fr n0 L ∧ h = h0
set_option maxRecDepth 65536 in
set_option maxHeartbeats 40000000 in
theorem pr3 (l : Launch) (Z : State) (a0 : Array Value) (hw : ∀ d ∈ tables_1, d.before a0 Z = true) (ws : List Jvm.Cond) (w0 : Addr) (cc : Int32) (rr : Int32) (kw : ClassId) (q0 : Int32) (q1 : Int32) (q2 : Int32) (q3 : Int32) (h0 : Heap) (n0 : Nat) (Z0 : n0 ≤ h0.size) (V_w0 : Arv Z h0 w0 kw .int (4 : Int32) [(.int q0), (.int q1), (.int q2), (.int q3)] (.int (0 : Int32))) (hm0 : (0 : Int32) < cc → ¬ (q0 = rr)) (hm1 : (1 : Int32) < cc → ¬ (q1 = rr)) (hm2 : (2 : Int32) < cc → ¬ (q2 = rr)) (hfl : (3 : Int32) < cc) (hre : q3 = rr) :
    MetFree l (⟨"com/example/leeway/leeway/lp/SparseColumnSubtractPinLaw", "present", "([III)Z"⟩ : MethodName) (head1 (Jvm.Cond.code (⟨"com/example/leeway/leeway/lp/SparseColumnSubtractPinLaw", "present", "([III)Z"⟩ : MethodName) method_5_code 3 (some .boolean) :: ws) ({ frames := 0, cells := 0, slots := 0, locals := 0 } : Room)) (fun a U => a = #[(.ref w0), (.int cc), (.int rr)] ∧ Z.Warmed39 U.vm ∧ U.heap = h0) (fun _ _ _ _ _ => True) (fun _ U o U' => ∃ v L, o = .returned v ∧ Q_pr3 Z w0 cc rr kw q0 q1 q2 q3 h0 n0 v U'.heap L ∧ FrameEnd U o U' L ({ frames := 0, cells := 0, slots := 0, locals := 0 } : Room).cells ({ frames := 0, cells := 0, slots := 0, locals := 0 } : Room).slots) := by
  refine MetFree.of_bodySF (plainFor_of_name pn_com_example_leeway_leeway_lp_SparseColumnSubtractPinLaw) hisR ?_
  intro p e s m args below meth c s₁ Bd hml0 hP hK
  obtain ⟨rfl, hZ, hh⟩ := hP
  have hx := Bd.exec
  have hby := Bd.bytes
  have hml : c.maxLocals = 3 := hml0
  have hown : s.vm.findClass "com/example/leeway/leeway/lp/SparseColumnSubtractPinLaw" = some m.cls := findClass_of_methodNamed Bd.named
  have hnm := (name_of_methodNamed Bd.named Bd.method).1
  have X0 : Stand p l e ({ frames := 0, cells := 0, slots := 0, locals := 0 } : Room) s m #[(.ref w0), (.int cc), (.int rr)] below meth c s₁ [] 0 0 := Stand.of_body Bd
  have e0 : s₁.heap = h0 := by rw [← hh, Bd.state]; rfl
  have N0 := Fr.nil n0
  have pre0 : ∀ t, Steps p.tables e below (s₁.setTop (mkF m 0 #[.val (.ref w0), .val (.int cc), .val (.int rr)] [])) t → Steps p.tables e below (s₁.setTop (entryFrame m #[(.ref w0), (.int cc), (.int rr)] 3)) t := fun t k => castTop (ef_8_RII m w0 cc rr) k
  obtain ⟨cq1, Arq1, -, Sq1, -, Hq1, -⟩ := id V_w0
  have jn2 : ∀ target, Steps p.tables e below (s₁.setTop (mkF m 11 #[.val (.ref w0), .val (.int cc), .val (.int rr)] [])) target → Steps p.tables e below (s₁.setTop (mkF m 1 #[.val (.ref w0), .val (.int cc), .val (.int rr)] [(.int cc)])) target := by
    intro target kt
    by_cases hq : (0 : Int32) < cc
    · show Steps p.tables e below (s₁.setTop (mkF m 1 #[.val (.ref w0), .val (.int cc), .val (.int rr)] [(.int cc)])) _
      refine XS.ifNo X0.here hx rfl (hb hby d8_1) rfl ((if0 _ _).trans (tlt hq).2.2.2) ?_
      refine XS.aloadN X0.here hx rfl (hb hby d8_4) rfl rfl ?_
      refine XS.iconst X0.here hx rfl (hb hby d8_5) ?_
      refine X0.iaload hx (j := (0 : Int32)) (v := (.int q0)) (by rw [e0]; exact Arq1.1) (State.isArrayOf_alike hZ.alike Arq1.2.1) Arq1.2.2 (inb_of Sq1 ⟨by decide, by decide⟩) (Has.at Hq1 (inb_of Sq1 ⟨by decide, by decide⟩) rfl) (g := (mkF m 6 #[.val (.ref w0), .val (.int cc), .val (.int rr)] [(.int (0 : Int32)), (.ref w0)])) rfl rfl (hb hby d8_6) _ ?_
      show Steps p.tables e below (s₁.setTop (mkF m 7 #[.val (.ref w0), .val (.int cc), .val (.int rr)] [(.int q0)])) _
      refine XS.iloadN X0.here hx rfl (hb hby d8_7) rfl ?_
      refine XS.icmpNo X0.here hx rfl (hb hby d8_8) rfl (feq (hm0 hq : ¬ (q0 = rr))).1 ?_
      show Steps p.tables e below (s₁.setTop (mkF m 11 #[.val (.ref w0), .val (.int cc), .val (.int rr)] [])) _
      exact kt
    · show Steps p.tables e below (s₁.setTop (mkF m 1 #[.val (.ref w0), .val (.int cc), .val (.int rr)] [(.int cc)])) _
      refine XS.ifYes X0.here hx rfl (pc0 := 1) (pc' := 11) rfl (hb hby d8_1) rfl ((if0 _ _).trans (flt hq).2.2.2) (by decide) (by decide) ?_
      show Steps p.tables e below (s₁.setTop (mkF m 11 #[.val (.ref w0), .val (.int cc), .val (.int rr)] [])) _
      exact kt
  obtain ⟨cq3, Arq3, -, Sq3, -, Hq3, -⟩ := id V_w0
  have jn4 : ∀ target, Steps p.tables e below (s₁.setTop (mkF m 23 #[.val (.ref w0), .val (.int cc), .val (.int rr)] [])) target → Steps p.tables e below (s₁.setTop (mkF m 13 #[.val (.ref w0), .val (.int cc), .val (.int rr)] [(.int (1 : Int32)), (.int cc)])) target := by
    intro target kt
    by_cases hq : (1 : Int32) < cc
    · show Steps p.tables e below (s₁.setTop (mkF m 13 #[.val (.ref w0), .val (.int cc), .val (.int rr)] [(.int (1 : Int32)), (.int cc)])) _
      refine XS.icmpNo X0.here hx rfl (hb hby d8_13) rfl (tlt hq).2.2.2 ?_
      refine XS.aloadN X0.here hx rfl (hb hby d8_16) rfl rfl ?_
      refine XS.iconst X0.here hx rfl (hb hby d8_17) ?_
      refine X0.iaload hx (j := (1 : Int32)) (v := (.int q1)) (by rw [e0]; exact Arq3.1) (State.isArrayOf_alike hZ.alike Arq3.2.1) Arq3.2.2 (inb_of Sq3 ⟨by decide, by decide⟩) (Has.at Hq3 (inb_of Sq3 ⟨by decide, by decide⟩) rfl) (g := (mkF m 18 #[.val (.ref w0), .val (.int cc), .val (.int rr)] [(.int (1 : Int32)), (.ref w0)])) rfl rfl (hb hby d8_18) _ ?_
      show Steps p.tables e below (s₁.setTop (mkF m 19 #[.val (.ref w0), .val (.int cc), .val (.int rr)] [(.int q1)])) _
      refine XS.iloadN X0.here hx rfl (hb hby d8_19) rfl ?_
      refine XS.icmpNo X0.here hx rfl (hb hby d8_20) rfl (feq (hm1 hq : ¬ (q1 = rr))).1 ?_
      show Steps p.tables e below (s₁.setTop (mkF m 23 #[.val (.ref w0), .val (.int cc), .val (.int rr)] [])) _
      exact kt
    · show Steps p.tables e below (s₁.setTop (mkF m 13 #[.val (.ref w0), .val (.int cc), .val (.int rr)] [(.int (1 : Int32)), (.int cc)])) _
      refine XS.icmpYes X0.here hx rfl (pc0 := 13) (pc' := 23) rfl (hb hby d8_13) rfl (flt hq).2.2.2 (by decide) (by decide) ?_
      show Steps p.tables e below (s₁.setTop (mkF m 23 #[.val (.ref w0), .val (.int cc), .val (.int rr)] [])) _
      exact kt
  obtain ⟨cq5, Arq5, -, Sq5, -, Hq5, -⟩ := id V_w0
  have jn6 : ∀ target, Steps p.tables e below (s₁.setTop (mkF m 35 #[.val (.ref w0), .val (.int cc), .val (.int rr)] [])) target → Steps p.tables e below (s₁.setTop (mkF m 25 #[.val (.ref w0), .val (.int cc), .val (.int rr)] [(.int (2 : Int32)), (.int cc)])) target := by
    intro target kt
    by_cases hq : (2 : Int32) < cc
    · show Steps p.tables e below (s₁.setTop (mkF m 25 #[.val (.ref w0), .val (.int cc), .val (.int rr)] [(.int (2 : Int32)), (.int cc)])) _
      refine XS.icmpNo X0.here hx rfl (hb hby d8_25) rfl (tlt hq).2.2.2 ?_
      refine XS.aloadN X0.here hx rfl (hb hby d8_28) rfl rfl ?_
      show Steps p.tables e below (s₁.setTop (mkF m 29 #[.val (.ref w0), .val (.int cc), .val (.int rr)] [(.ref w0)])) _
      refine XS.iconst X0.here hx rfl (hb hby d8_29) ?_
      refine X0.iaload hx (j := (2 : Int32)) (v := (.int q2)) (by rw [e0]; exact Arq5.1) (State.isArrayOf_alike hZ.alike Arq5.2.1) Arq5.2.2 (inb_of Sq5 ⟨by decide, by decide⟩) (Has.at Hq5 (inb_of Sq5 ⟨by decide, by decide⟩) rfl) (g := (mkF m 30 #[.val (.ref w0), .val (.int cc), .val (.int rr)] [(.int (2 : Int32)), (.ref w0)])) rfl rfl (hb hby d8_30) _ ?_
      show Steps p.tables e below (s₁.setTop (mkF m 31 #[.val (.ref w0), .val (.int cc), .val (.int rr)] [(.int q2)])) _
      refine XS.iloadN X0.here hx rfl (hb hby d8_31) rfl ?_
      refine XS.icmpNo X0.here hx rfl (hb hby d8_32) rfl (feq (hm2 hq : ¬ (q2 = rr))).1 ?_
      show Steps p.tables e below (s₁.setTop (mkF m 35 #[.val (.ref w0), .val (.int cc), .val (.int rr)] [])) _
      exact kt
    · show Steps p.tables e below (s₁.setTop (mkF m 25 #[.val (.ref w0), .val (.int cc), .val (.int rr)] [(.int (2 : Int32)), (.int cc)])) _
      refine XS.icmpYes X0.here hx rfl (pc0 := 25) (pc' := 35) rfl (hb hby d8_25) rfl (flt hq).2.2.2 (by decide) (by decide) ?_
      show Steps p.tables e below (s₁.setTop (mkF m 35 #[.val (.ref w0), .val (.int cc), .val (.int rr)] [])) _
      exact kt
  obtain ⟨cq7, Arq7, -, Sq7, -, Hq7, -⟩ := id V_w0
  obtain ⟨fs, hr, hrun, hended, hW, hsame⟩ := X0.leave (v := some (.int (1 : Int32))) (fun h => by rw [Bd.returns] at h; cases h)
  refine ⟨_, _, pre0 _ ?_, hrun, hended, _, _, rfl, ?_, ⟨_, rfl⟩, hW, hsame.mono (by decide) (by decide)⟩
  · show Steps p.tables e below (s₁.setTop (mkF m 0 #[.val (.ref w0), .val (.int cc), .val (.int rr)] [])) _
    refine XS.iloadN X0.here hx rfl (hb hby d8_0) rfl ?_
    show Steps p.tables e below (s₁.setTop (mkF m 1 #[.val (.ref w0), .val (.int cc), .val (.int rr)] [(.int cc)])) _
    refine jn2 _ ?_
    show Steps p.tables e below (s₁.setTop (mkF m 11 #[.val (.ref w0), .val (.int cc), .val (.int rr)] [])) _
    refine XS.iloadN X0.here hx rfl (hb hby d8_11) rfl ?_
    refine XS.iconst X0.here hx rfl (hb hby d8_12) ?_
    show Steps p.tables e below (s₁.setTop (mkF m 13 #[.val (.ref w0), .val (.int cc), .val (.int rr)] [(.int (1 : Int32)), (.int cc)])) _
    refine jn4 _ ?_
    show Steps p.tables e below (s₁.setTop (mkF m 23 #[.val (.ref w0), .val (.int cc), .val (.int rr)] [])) _
    refine XS.iloadN X0.here hx rfl (hb hby d8_23) rfl ?_
    refine XS.iconst X0.here hx rfl (hb hby d8_24) ?_
    show Steps p.tables e below (s₁.setTop (mkF m 25 #[.val (.ref w0), .val (.int cc), .val (.int rr)] [(.int (2 : Int32)), (.int cc)])) _
    refine jn6 _ ?_
    show Steps p.tables e below (s₁.setTop (mkF m 35 #[.val (.ref w0), .val (.int cc), .val (.int rr)] [])) _
    refine XS.iloadN X0.here hx rfl (hb hby d8_35) rfl ?_
    refine XS.iconst X0.here hx rfl (hb hby d8_36) ?_
    refine XS.icmpNo X0.here hx rfl (hb hby d8_37) rfl (tlt (hfl : (3 : Int32) < cc)).2.2.2 ?_
    refine XS.aloadN X0.here hx rfl (hb hby d8_40) rfl rfl ?_
    refine XS.iconst X0.here hx rfl (hb hby d8_41) ?_
    refine X0.iaload hx (j := (3 : Int32)) (v := (.int q3)) (by rw [e0]; exact Arq7.1) (State.isArrayOf_alike hZ.alike Arq7.2.1) Arq7.2.2 (inb_of Sq7 ⟨by decide, by decide⟩) (Has.at Hq7 (inb_of Sq7 ⟨by decide, by decide⟩) rfl) (g := (mkF m 42 #[.val (.ref w0), .val (.int cc), .val (.int rr)] [(.int (3 : Int32)), (.ref w0)])) rfl rfl (hb hby d8_42) _ ?_
    show Steps p.tables e below (s₁.setTop (mkF m 43 #[.val (.ref w0), .val (.int cc), .val (.int rr)] [(.int q3)])) _
    refine XS.iloadN X0.here hx rfl (hb hby d8_43) rfl ?_
    refine XS.icmpNo X0.here hx rfl (hb hby d8_44) rfl (teq (hre : q3 = rr)).2 ?_
    refine XS.iconst X0.here hx rfl (hb hby d8_47) ?_
    refine XS.goto X0.here hx rfl (pc0 := 48) (pc' := 52) rfl (hb hby d8_48) (by decide) (by decide) ?_
    exact retN X0 hx (t := .boolean) Bd.returns (by simp) (hb hby d8_52) hr
  · show Q_pr3 Z w0 cc rr kw q0 q1 q2 q3 h0 n0 _ s₁.heap _
    rw [e0]
    exact ⟨rfl, N0, rfl⟩
theorem d8_51 : decode method_5_code 51 = .ok (.iconst 0, 1) := by decide +kernel
def Q_pr4 (Z : State) (w0 : Addr) (cc : Int32) (rr : Int32) (kw : ClassId) (q0 : Int32) (q1 : Int32) (q2 : Int32) (q3 : Int32) (h0 : Heap) (n0 : Nat) (v : Option Value) (h : Heap) (L : List Loc) : Prop := v = some (.int (0 : Int32)) ∧ Fr n0 L ∧ h = h0
set_option maxRecDepth 65536 in
set_option maxHeartbeats 40000000 in
theorem pr4 (l : Launch) (Z : State) (a0 : Array Value) (hw : ∀ d ∈ tables_1, d.before a0 Z = true) (ws : List Jvm.Cond) (w0 : Addr) (cc : Int32) (rr : Int32) (kw : ClassId) (q0 : Int32) (q1 : Int32) (q2 : Int32) (q3 : Int32) (h0 : Heap) (n0 : Nat) (Z0 : n0 ≤ h0.size) (V_w0 : Arv Z h0 w0 kw .int (4 : Int32) [(.int q0), (.int q1), (.int q2), (.int q3)] (.int (0 : Int32))) (hm0 : (0 : Int32) < cc → ¬ (q0 = rr)) (hm1 : (1 : Int32) < cc → ¬ (q1 = rr)) (hm2 : (2 : Int32) < cc → ¬ (q2 = rr)) (hm3 : (3 : Int32) < cc → ¬ (q3 = rr)) :
    MetFree l (⟨"com/example/leeway/leeway/lp/SparseColumnSubtractPinLaw", "present", "([III)Z"⟩ : MethodName) (head1 (Jvm.Cond.code (⟨"com/example/leeway/leeway/lp/SparseColumnSubtractPinLaw", "present", "([III)Z"⟩ : MethodName) method_5_code 3 (some .boolean) :: ws) ({ frames := 0, cells := 0, slots := 0, locals := 0 } : Room)) (fun a U => a = #[(.ref w0), (.int cc), (.int rr)] ∧ Z.Warmed39 U.vm ∧ U.heap = h0) (fun _ _ _ _ _ => True) (fun _ U o U' => ∃ v L, o = .returned v ∧ Q_pr4 Z w0 cc rr kw q0 q1 q2 q3 h0 n0 v U'.heap L ∧ FrameEnd U o U' L ({ frames := 0, cells := 0, slots := 0, locals := 0 } : Room).cells ({ frames := 0, cells := 0, slots := 0, locals := 0 } : Room).slots) := by
  refine MetFree.of_bodySF (plainFor_of_name pn_com_example_leeway_leeway_lp_SparseColumnSubtractPinLaw) hisR ?_
  intro p e s m args below meth c s₁ Bd hml0 hP hK
  obtain ⟨rfl, hZ, hh⟩ := hP
  have hx := Bd.exec
  have hby := Bd.bytes
  have hml : c.maxLocals = 3 := hml0
  have hown : s.vm.findClass "com/example/leeway/leeway/lp/SparseColumnSubtractPinLaw" = some m.cls := findClass_of_methodNamed Bd.named
  have hnm := (name_of_methodNamed Bd.named Bd.method).1
  have X0 : Stand p l e ({ frames := 0, cells := 0, slots := 0, locals := 0 } : Room) s m #[(.ref w0), (.int cc), (.int rr)] below meth c s₁ [] 0 0 := Stand.of_body Bd
  have e0 : s₁.heap = h0 := by rw [← hh, Bd.state]; rfl
  have N0 := Fr.nil n0
  have pre0 : ∀ t, Steps p.tables e below (s₁.setTop (mkF m 0 #[.val (.ref w0), .val (.int cc), .val (.int rr)] [])) t → Steps p.tables e below (s₁.setTop (entryFrame m #[(.ref w0), (.int cc), (.int rr)] 3)) t := fun t k => castTop (ef_8_RII m w0 cc rr) k
  obtain ⟨cq1, Arq1, -, Sq1, -, Hq1, -⟩ := id V_w0
  have jn2 : ∀ target, Steps p.tables e below (s₁.setTop (mkF m 11 #[.val (.ref w0), .val (.int cc), .val (.int rr)] [])) target → Steps p.tables e below (s₁.setTop (mkF m 1 #[.val (.ref w0), .val (.int cc), .val (.int rr)] [(.int cc)])) target := by
    intro target kt
    by_cases hq : (0 : Int32) < cc
    · show Steps p.tables e below (s₁.setTop (mkF m 1 #[.val (.ref w0), .val (.int cc), .val (.int rr)] [(.int cc)])) _
      refine XS.ifNo X0.here hx rfl (hb hby d8_1) rfl ((if0 _ _).trans (tlt hq).2.2.2) ?_
      refine XS.aloadN X0.here hx rfl (hb hby d8_4) rfl rfl ?_
      refine XS.iconst X0.here hx rfl (hb hby d8_5) ?_
      refine X0.iaload hx (j := (0 : Int32)) (v := (.int q0)) (by rw [e0]; exact Arq1.1) (State.isArrayOf_alike hZ.alike Arq1.2.1) Arq1.2.2 (inb_of Sq1 ⟨by decide, by decide⟩) (Has.at Hq1 (inb_of Sq1 ⟨by decide, by decide⟩) rfl) (g := (mkF m 6 #[.val (.ref w0), .val (.int cc), .val (.int rr)] [(.int (0 : Int32)), (.ref w0)])) rfl rfl (hb hby d8_6) _ ?_
      show Steps p.tables e below (s₁.setTop (mkF m 7 #[.val (.ref w0), .val (.int cc), .val (.int rr)] [(.int q0)])) _
      refine XS.iloadN X0.here hx rfl (hb hby d8_7) rfl ?_
      refine XS.icmpNo X0.here hx rfl (hb hby d8_8) rfl (feq (hm0 hq : ¬ (q0 = rr))).1 ?_
      show Steps p.tables e below (s₁.setTop (mkF m 11 #[.val (.ref w0), .val (.int cc), .val (.int rr)] [])) _
      exact kt
    · show Steps p.tables e below (s₁.setTop (mkF m 1 #[.val (.ref w0), .val (.int cc), .val (.int rr)] [(.int cc)])) _
      refine XS.ifYes X0.here hx rfl (pc0 := 1) (pc' := 11) rfl (hb hby d8_1) rfl ((if0 _ _).trans (flt hq).2.2.2) (by decide) (by decide) ?_
      show Steps p.tables e below (s₁.setTop (mkF m 11 #[.val (.ref w0), .val (.int cc), .val (.int rr)] [])) _
      exact kt
  obtain ⟨cq3, Arq3, -, Sq3, -, Hq3, -⟩ := id V_w0
  have jn4 : ∀ target, Steps p.tables e below (s₁.setTop (mkF m 23 #[.val (.ref w0), .val (.int cc), .val (.int rr)] [])) target → Steps p.tables e below (s₁.setTop (mkF m 13 #[.val (.ref w0), .val (.int cc), .val (.int rr)] [(.int (1 : Int32)), (.int cc)])) target := by
    intro target kt
    by_cases hq : (1 : Int32) < cc
    · show Steps p.tables e below (s₁.setTop (mkF m 13 #[.val (.ref w0), .val (.int cc), .val (.int rr)] [(.int (1 : Int32)), (.int cc)])) _
      refine XS.icmpNo X0.here hx rfl (hb hby d8_13) rfl (tlt hq).2.2.2 ?_
      refine XS.aloadN X0.here hx rfl (hb hby d8_16) rfl rfl ?_
      refine XS.iconst X0.here hx rfl (hb hby d8_17) ?_
      refine X0.iaload hx (j := (1 : Int32)) (v := (.int q1)) (by rw [e0]; exact Arq3.1) (State.isArrayOf_alike hZ.alike Arq3.2.1) Arq3.2.2 (inb_of Sq3 ⟨by decide, by decide⟩) (Has.at Hq3 (inb_of Sq3 ⟨by decide, by decide⟩) rfl) (g := (mkF m 18 #[.val (.ref w0), .val (.int cc), .val (.int rr)] [(.int (1 : Int32)), (.ref w0)])) rfl rfl (hb hby d8_18) _ ?_
      show Steps p.tables e below (s₁.setTop (mkF m 19 #[.val (.ref w0), .val (.int cc), .val (.int rr)] [(.int q1)])) _
      refine XS.iloadN X0.here hx rfl (hb hby d8_19) rfl ?_
      refine XS.icmpNo X0.here hx rfl (hb hby d8_20) rfl (feq (hm1 hq : ¬ (q1 = rr))).1 ?_
      show Steps p.tables e below (s₁.setTop (mkF m 23 #[.val (.ref w0), .val (.int cc), .val (.int rr)] [])) _
      exact kt
    · show Steps p.tables e below (s₁.setTop (mkF m 13 #[.val (.ref w0), .val (.int cc), .val (.int rr)] [(.int (1 : Int32)), (.int cc)])) _
      refine XS.icmpYes X0.here hx rfl (pc0 := 13) (pc' := 23) rfl (hb hby d8_13) rfl (flt hq).2.2.2 (by decide) (by decide) ?_
      show Steps p.tables e below (s₁.setTop (mkF m 23 #[.val (.ref w0), .val (.int cc), .val (.int rr)] [])) _
      exact kt
  obtain ⟨cq5, Arq5, -, Sq5, -, Hq5, -⟩ := id V_w0
  have jn6 : ∀ target, Steps p.tables e below (s₁.setTop (mkF m 35 #[.val (.ref w0), .val (.int cc), .val (.int rr)] [])) target → Steps p.tables e below (s₁.setTop (mkF m 25 #[.val (.ref w0), .val (.int cc), .val (.int rr)] [(.int (2 : Int32)), (.int cc)])) target := by
    intro target kt
    by_cases hq : (2 : Int32) < cc
    · show Steps p.tables e below (s₁.setTop (mkF m 25 #[.val (.ref w0), .val (.int cc), .val (.int rr)] [(.int (2 : Int32)), (.int cc)])) _
      refine XS.icmpNo X0.here hx rfl (hb hby d8_25) rfl (tlt hq).2.2.2 ?_
      refine XS.aloadN X0.here hx rfl (hb hby d8_28) rfl rfl ?_
      show Steps p.tables e below (s₁.setTop (mkF m 29 #[.val (.ref w0), .val (.int cc), .val (.int rr)] [(.ref w0)])) _
      refine XS.iconst X0.here hx rfl (hb hby d8_29) ?_
      refine X0.iaload hx (j := (2 : Int32)) (v := (.int q2)) (by rw [e0]; exact Arq5.1) (State.isArrayOf_alike hZ.alike Arq5.2.1) Arq5.2.2 (inb_of Sq5 ⟨by decide, by decide⟩) (Has.at Hq5 (inb_of Sq5 ⟨by decide, by decide⟩) rfl) (g := (mkF m 30 #[.val (.ref w0), .val (.int cc), .val (.int rr)] [(.int (2 : Int32)), (.ref w0)])) rfl rfl (hb hby d8_30) _ ?_
      show Steps p.tables e below (s₁.setTop (mkF m 31 #[.val (.ref w0), .val (.int cc), .val (.int rr)] [(.int q2)])) _
      refine XS.iloadN X0.here hx rfl (hb hby d8_31) rfl ?_
      refine XS.icmpNo X0.here hx rfl (hb hby d8_32) rfl (feq (hm2 hq : ¬ (q2 = rr))).1 ?_
      show Steps p.tables e below (s₁.setTop (mkF m 35 #[.val (.ref w0), .val (.int cc), .val (.int rr)] [])) _
      exact kt
    · show Steps p.tables e below (s₁.setTop (mkF m 25 #[.val (.ref w0), .val (.int cc), .val (.int rr)] [(.int (2 : Int32)), (.int cc)])) _
      refine XS.icmpYes X0.here hx rfl (pc0 := 25) (pc' := 35) rfl (hb hby d8_25) rfl (flt hq).2.2.2 (by decide) (by decide) ?_
      show Steps p.tables e below (s₁.setTop (mkF m 35 #[.val (.ref w0), .val (.int cc), .val (.int rr)] [])) _
      exact kt
  obtain ⟨cq7, Arq7, -, Sq7, -, Hq7, -⟩ := id V_w0
  have jn8 : ∀ target, Steps p.tables e below (s₁.setTop (mkF m 51 #[.val (.ref w0), .val (.int cc), .val (.int rr)] [])) target → Steps p.tables e below (s₁.setTop (mkF m 37 #[.val (.ref w0), .val (.int cc), .val (.int rr)] [(.int (3 : Int32)), (.int cc)])) target := by
    intro target kt
    by_cases hq : (3 : Int32) < cc
    · show Steps p.tables e below (s₁.setTop (mkF m 37 #[.val (.ref w0), .val (.int cc), .val (.int rr)] [(.int (3 : Int32)), (.int cc)])) _
      refine XS.icmpNo X0.here hx rfl (hb hby d8_37) rfl (tlt hq).2.2.2 ?_
      refine XS.aloadN X0.here hx rfl (hb hby d8_40) rfl rfl ?_
      refine XS.iconst X0.here hx rfl (hb hby d8_41) ?_
      refine X0.iaload hx (j := (3 : Int32)) (v := (.int q3)) (by rw [e0]; exact Arq7.1) (State.isArrayOf_alike hZ.alike Arq7.2.1) Arq7.2.2 (inb_of Sq7 ⟨by decide, by decide⟩) (Has.at Hq7 (inb_of Sq7 ⟨by decide, by decide⟩) rfl) (g := (mkF m 42 #[.val (.ref w0), .val (.int cc), .val (.int rr)] [(.int (3 : Int32)), (.ref w0)])) rfl rfl (hb hby d8_42) _ ?_
      show Steps p.tables e below (s₁.setTop (mkF m 43 #[.val (.ref w0), .val (.int cc), .val (.int rr)] [(.int q3)])) _
      refine XS.iloadN X0.here hx rfl (hb hby d8_43) rfl ?_
      refine XS.icmpYes X0.here hx rfl (pc0 := 44) (pc' := 51) rfl (hb hby d8_44) rfl (feq (hm3 hq : ¬ (q3 = rr))).2 (by decide) (by decide) ?_
      show Steps p.tables e below (s₁.setTop (mkF m 51 #[.val (.ref w0), .val (.int cc), .val (.int rr)] [])) _
      exact kt
    · show Steps p.tables e below (s₁.setTop (mkF m 37 #[.val (.ref w0), .val (.int cc), .val (.int rr)] [(.int (3 : Int32)), (.int cc)])) _
      refine XS.icmpYes X0.here hx rfl (pc0 := 37) (pc' := 51) rfl (hb hby d8_37) rfl (flt hq).2.2.2 (by decide) (by decide) ?_
      show Steps p.tables e below (s₁.setTop (mkF m 51 #[.val (.ref w0), .val (.int cc), .val (.int rr)] [])) _
      exact kt
  obtain ⟨fs, hr, hrun, hended, hW, hsame⟩ := X0.leave (v := some (.int (0 : Int32))) (fun h => by rw [Bd.returns] at h; cases h)
  refine ⟨_, _, pre0 _ ?_, hrun, hended, _, _, rfl, ?_, ⟨_, rfl⟩, hW, hsame.mono (by decide) (by decide)⟩
  · show Steps p.tables e below (s₁.setTop (mkF m 0 #[.val (.ref w0), .val (.int cc), .val (.int rr)] [])) _
    refine XS.iloadN X0.here hx rfl (hb hby d8_0) rfl ?_
    show Steps p.tables e below (s₁.setTop (mkF m 1 #[.val (.ref w0), .val (.int cc), .val (.int rr)] [(.int cc)])) _
    refine jn2 _ ?_
    show Steps p.tables e below (s₁.setTop (mkF m 11 #[.val (.ref w0), .val (.int cc), .val (.int rr)] [])) _
    refine XS.iloadN X0.here hx rfl (hb hby d8_11) rfl ?_
    refine XS.iconst X0.here hx rfl (hb hby d8_12) ?_
    show Steps p.tables e below (s₁.setTop (mkF m 13 #[.val (.ref w0), .val (.int cc), .val (.int rr)] [(.int (1 : Int32)), (.int cc)])) _
    refine jn4 _ ?_
    show Steps p.tables e below (s₁.setTop (mkF m 23 #[.val (.ref w0), .val (.int cc), .val (.int rr)] [])) _
    refine XS.iloadN X0.here hx rfl (hb hby d8_23) rfl ?_
    refine XS.iconst X0.here hx rfl (hb hby d8_24) ?_
    show Steps p.tables e below (s₁.setTop (mkF m 25 #[.val (.ref w0), .val (.int cc), .val (.int rr)] [(.int (2 : Int32)), (.int cc)])) _
    refine jn6 _ ?_
    show Steps p.tables e below (s₁.setTop (mkF m 35 #[.val (.ref w0), .val (.int cc), .val (.int rr)] [])) _
    refine XS.iloadN X0.here hx rfl (hb hby d8_35) rfl ?_
    refine XS.iconst X0.here hx rfl (hb hby d8_36) ?_
    show Steps p.tables e below (s₁.setTop (mkF m 37 #[.val (.ref w0), .val (.int cc), .val (.int rr)] [(.int (3 : Int32)), (.int cc)])) _
    refine jn8 _ ?_
    show Steps p.tables e below (s₁.setTop (mkF m 51 #[.val (.ref w0), .val (.int cc), .val (.int rr)] [])) _
    refine XS.iconst X0.here hx rfl (hb hby d8_51) ?_
    exact retN X0 hx (t := .boolean) Bd.returns (by simp) (hb hby d8_52) hr
  · show Q_pr4 Z w0 cc rr kw q0 q1 q2 q3 h0 n0 _ s₁.heap _
    rw [e0]
    exact ⟨rfl, N0, rfl⟩
def Q_prM (Z : State) (w0 : Addr) (cc : Int32) (rr : Int32) (kw : ClassId) (q0 : Int32) (q1 : Int32) (q2 : Int32) (q3 : Int32) (pz : Int32) (h0 : Heap) (n0 : Nat) (v : Option Value) (h : Heap) (L : List Loc) : Prop := v = some (.int pz) ∧ Fr n0 L ∧ h = h0
set_option maxHeartbeats 40000000 in
theorem prM (l : Launch) (Z : State) (a0 : Array Value) (hw : ∀ d ∈ tables_1, d.before a0 Z = true) (ws : List Jvm.Cond) (w0 : Addr) (cc : Int32) (rr : Int32) (kw : ClassId) (q0 : Int32) (q1 : Int32) (q2 : Int32) (q3 : Int32) (pz : Int32) (h0 : Heap) (n0 : Nat) (Z0 : n0 ≤ h0.size) (V_w0 : Arv Z h0 w0 kw .int (4 : Int32) [(.int q0), (.int q1), (.int q2), (.int q3)] (.int (0 : Int32))) (hpz : pz = Jvm.OwnSC.pr cc rr q0 q1 q2 q3) :
    MetFree l (⟨"com/example/leeway/leeway/lp/SparseColumnSubtractPinLaw", "present", "([III)Z"⟩ : MethodName) (head1 (Jvm.Cond.code (⟨"com/example/leeway/leeway/lp/SparseColumnSubtractPinLaw", "present", "([III)Z"⟩ : MethodName) method_5_code 3 (some .boolean) :: ws) ({ frames := 0, cells := 0, slots := 0, locals := 0 } : Room)) (fun a U => a = #[(.ref w0), (.int cc), (.int rr)] ∧ Z.Warmed39 U.vm ∧ U.heap = h0) (fun _ _ _ _ _ => True) (fun _ U o U' => ∃ v L, o = .returned v ∧ Q_prM Z w0 cc rr kw q0 q1 q2 q3 pz h0 n0 v U'.heap L ∧ FrameEnd U o U' L ({ frames := 0, cells := 0, slots := 0, locals := 0 } : Room).cells ({ frames := 0, cells := 0, slots := 0, locals := 0 } : Room).slots) := by
  by_cases z0 : (0 : Int32) < cc ∧ q0 = rr
  · obtain rfl := hpz.trans (if_pos (Or.inl z0))
    exact pr0 l Z a0 hw ws w0 cc rr kw q0 q1 q2 q3 h0 n0 Z0 (V_w0 := V_w0) (hfl := z0.1) (hre := z0.2) 
  by_cases z1 : (1 : Int32) < cc ∧ q1 = rr
  · obtain rfl := hpz.trans (if_pos (Or.inr (Or.inl z1)))
    exact pr1 l Z a0 hw ws w0 cc rr kw q0 q1 q2 q3 h0 n0 Z0 (V_w0 := V_w0) (hfl := z1.1) (hre := z1.2) (hm0 := fun a b => z0 ⟨a, b⟩)
  by_cases z2 : (2 : Int32) < cc ∧ q2 = rr
  · obtain rfl := hpz.trans (if_pos (Or.inr (Or.inr (Or.inl z2))))
    exact pr2 l Z a0 hw ws w0 cc rr kw q0 q1 q2 q3 h0 n0 Z0 (V_w0 := V_w0) (hfl := z2.1) (hre := z2.2) (hm0 := fun a b => z0 ⟨a, b⟩) (hm1 := fun a b => z1 ⟨a, b⟩)
  by_cases z3 : (3 : Int32) < cc ∧ q3 = rr
  · obtain rfl := hpz.trans (if_pos (Or.inr (Or.inr (Or.inr (z3)))))
    exact pr3 l Z a0 hw ws w0 cc rr kw q0 q1 q2 q3 h0 n0 Z0 (V_w0 := V_w0) (hfl := z3.1) (hre := z3.2) (hm0 := fun a b => z0 ⟨a, b⟩) (hm1 := fun a b => z1 ⟨a, b⟩) (hm2 := fun a b => z2 ⟨a, b⟩)
  obtain rfl := hpz.trans (if_neg (fun q => q.elim z0 fun q => q.elim z1 fun q => q.elim z2 z3))
  exact pr4 l Z a0 hw ws w0 cc rr kw q0 q1 q2 q3 h0 n0 Z0 (V_w0 := V_w0) (hm0 := fun a b => z0 ⟨a, b⟩) (hm1 := fun a b => z1 ⟨a, b⟩) (hm2 := fun a b => z2 ⟨a, b⟩) (hm3 := fun a b => z3 ⟨a, b⟩)
theorem d9_0 : decode method_4_code 0 = .ok (.dconst 0, 1) := by decide +kernel
theorem d9_1 : decode method_4_code 1 = .ok (.dstore 9, 2) := by decide +kernel
theorem d9_3 : decode method_4_code 3 = .ok (.aload_n 1, 1) := by decide +kernel
theorem d9_4 : decode method_4_code 4 = .ok (.iconst 0, 1) := by decide +kernel
theorem d9_5 : decode method_4_code 5 = .ok (.baload, 1) := by decide +kernel
theorem d9_6 : decode method_4_code 6 = .ok (.ifCond .eq 18, 3) := by decide +kernel
theorem d9_9 : decode method_4_code 9 = .ok (.aload_n 2, 1) := by decide +kernel
theorem d9_10 : decode method_4_code 10 = .ok (.iconst 0, 1) := by decide +kernel
theorem d9_11 : decode method_4_code 11 = .ok (.iaload, 1) := by decide +kernel
theorem d9_12 : decode method_4_code 12 = .ok (.iload_n 0, 1) := by decide +kernel
theorem d9_13 : decode method_4_code 13 = .ok (.if_icmp .ne 11, 3) := by decide +kernel
theorem d9_16 : decode method_4_code 16 = .ok (.dload 9, 2) := by decide +kernel
theorem d9_18 : decode method_4_code 18 = .ok (.aload_n 3, 1) := by decide +kernel
theorem d9_19 : decode method_4_code 19 = .ok (.iconst 0, 1) := by decide +kernel
theorem d9_20 : decode method_4_code 20 = .ok (.daload, 1) := by decide +kernel
theorem d9_21 : decode method_4_code 21 = .ok (.dadd, 1) := by decide +kernel
theorem d9_22 : decode method_4_code 22 = .ok (.dstore 9, 2) := by decide +kernel
theorem d9_24 : decode method_4_code 24 = .ok (.aload_n 1, 1) := by decide +kernel
theorem d9_25 : decode method_4_code 25 = .ok (.iconst 1, 1) := by decide +kernel
theorem d9_26 : decode method_4_code 26 = .ok (.baload, 1) := by decide +kernel
theorem d9_27 : decode method_4_code 27 = .ok (.ifCond .eq 18, 3) := by decide +kernel
theorem d9_30 : decode method_4_code 30 = .ok (.aload_n 2, 1) := by decide +kernel
theorem d9_31 : decode method_4_code 31 = .ok (.iconst 1, 1) := by decide +kernel
theorem d9_32 : decode method_4_code 32 = .ok (.iaload, 1) := by decide +kernel
theorem d9_33 : decode method_4_code 33 = .ok (.iload_n 0, 1) := by decide +kernel
theorem d9_34 : decode method_4_code 34 = .ok (.if_icmp .ne 11, 3) := by decide +kernel
theorem d9_37 : decode method_4_code 37 = .ok (.dload 9, 2) := by decide +kernel
theorem d9_39 : decode method_4_code 39 = .ok (.aload_n 3, 1) := by decide +kernel
theorem d9_40 : decode method_4_code 40 = .ok (.iconst 1, 1) := by decide +kernel
theorem d9_41 : decode method_4_code 41 = .ok (.daload, 1) := by decide +kernel
theorem d9_42 : decode method_4_code 42 = .ok (.dadd, 1) := by decide +kernel
theorem d9_43 : decode method_4_code 43 = .ok (.dstore 9, 2) := by decide +kernel
theorem d9_45 : decode method_4_code 45 = .ok (.aload 4, 2) := by decide +kernel
theorem d9_47 : decode method_4_code 47 = .ok (.iconst 0, 1) := by decide +kernel
theorem d9_48 : decode method_4_code 48 = .ok (.baload, 1) := by decide +kernel
theorem d9_49 : decode method_4_code 49 = .ok (.ifCond .eq 23, 3) := by decide +kernel
theorem d9_52 : decode method_4_code 52 = .ok (.aload 5, 2) := by decide +kernel
theorem d9_54 : decode method_4_code 54 = .ok (.iconst 0, 1) := by decide +kernel
theorem d9_55 : decode method_4_code 55 = .ok (.iaload, 1) := by decide +kernel
theorem d9_56 : decode method_4_code 56 = .ok (.iload_n 0, 1) := by decide +kernel
theorem d9_57 : decode method_4_code 57 = .ok (.if_icmp .ne 15, 3) := by decide +kernel
theorem d9_60 : decode method_4_code 60 = .ok (.dload 9, 2) := by decide +kernel
theorem d9_62 : decode method_4_code 62 = .ok (.aload 6, 2) := by decide +kernel
theorem d9_64 : decode method_4_code 64 = .ok (.iconst 0, 1) := by decide +kernel
theorem d9_65 : decode method_4_code 65 = .ok (.daload, 1) := by decide +kernel
theorem d9_66 : decode method_4_code 66 = .ok (.dload 7, 2) := by decide +kernel
theorem d9_68 : decode method_4_code 68 = .ok (.dmul, 1) := by decide +kernel
theorem d9_69 : decode method_4_code 69 = .ok (.dsub, 1) := by decide +kernel
theorem d9_70 : decode method_4_code 70 = .ok (.dstore 9, 2) := by decide +kernel
theorem d9_72 : decode method_4_code 72 = .ok (.aload 4, 2) := by decide +kernel
theorem d9_74 : decode method_4_code 74 = .ok (.iconst 1, 1) := by decide +kernel
theorem d9_75 : decode method_4_code 75 = .ok (.baload, 1) := by decide +kernel
theorem d9_76 : decode method_4_code 76 = .ok (.ifCond .eq 23, 3) := by decide +kernel
theorem d9_79 : decode method_4_code 79 = .ok (.aload 5, 2) := by decide +kernel
theorem d9_81 : decode method_4_code 81 = .ok (.iconst 1, 1) := by decide +kernel
theorem d9_82 : decode method_4_code 82 = .ok (.iaload, 1) := by decide +kernel
theorem d9_83 : decode method_4_code 83 = .ok (.iload_n 0, 1) := by decide +kernel
theorem d9_84 : decode method_4_code 84 = .ok (.if_icmp .ne 15, 3) := by decide +kernel
theorem d9_87 : decode method_4_code 87 = .ok (.dload 9, 2) := by decide +kernel
theorem d9_89 : decode method_4_code 89 = .ok (.aload 6, 2) := by decide +kernel
theorem d9_91 : decode method_4_code 91 = .ok (.iconst 1, 1) := by decide +kernel
theorem d9_92 : decode method_4_code 92 = .ok (.daload, 1) := by decide +kernel
theorem d9_93 : decode method_4_code 93 = .ok (.dload 7, 2) := by decide +kernel
theorem d9_95 : decode method_4_code 95 = .ok (.dmul, 1) := by decide +kernel
theorem d9_96 : decode method_4_code 96 = .ok (.dsub, 1) := by decide +kernel
theorem d9_97 : decode method_4_code 97 = .ok (.dstore 9, 2) := by decide +kernel
theorem d9_99 : decode method_4_code 99 = .ok (.aload 4, 2) := by decide +kernel
theorem d9_101 : decode method_4_code 101 = .ok (.iconst 2, 1) := by decide +kernel
theorem d9_102 : decode method_4_code 102 = .ok (.baload, 1) := by decide +kernel
theorem d9_103 : decode method_4_code 103 = .ok (.ifCond .eq 23, 3) := by decide +kernel
theorem d9_106 : decode method_4_code 106 = .ok (.aload 5, 2) := by decide +kernel
theorem d9_108 : decode method_4_code 108 = .ok (.iconst 2, 1) := by decide +kernel
theorem d9_109 : decode method_4_code 109 = .ok (.iaload, 1) := by decide +kernel
theorem d9_110 : decode method_4_code 110 = .ok (.iload_n 0, 1) := by decide +kernel
theorem d9_111 : decode method_4_code 111 = .ok (.if_icmp .ne 15, 3) := by decide +kernel
theorem d9_114 : decode method_4_code 114 = .ok (.dload 9, 2) := by decide +kernel
theorem d9_116 : decode method_4_code 116 = .ok (.aload 6, 2) := by decide +kernel
theorem d9_118 : decode method_4_code 118 = .ok (.iconst 2, 1) := by decide +kernel
theorem d9_119 : decode method_4_code 119 = .ok (.daload, 1) := by decide +kernel
theorem d9_120 : decode method_4_code 120 = .ok (.dload 7, 2) := by decide +kernel
theorem d9_122 : decode method_4_code 122 = .ok (.dmul, 1) := by decide +kernel
theorem d9_123 : decode method_4_code 123 = .ok (.dsub, 1) := by decide +kernel
theorem d9_124 : decode method_4_code 124 = .ok (.dstore 9, 2) := by decide +kernel
theorem d9_126 : decode method_4_code 126 = .ok (.dload 9, 2) := by decide +kernel
theorem d9_128 : decode method_4_code 128 = .ok (.dreturn, 1) := by decide +kernel
theorem ef_9_IRRRRRRD (m : MethodId) (x0 : Int32) (x1 : Addr) (x2 : Addr) (x3 : Addr) (x4 : Addr) (x5 : Addr) (x6 : Addr) (x7 : UInt64) : entryFrame m #[(.int x0), (.ref x1), (.ref x2), (.ref x3), (.ref x4), (.ref x5), (.ref x6), (.double x7)] 11 = mkF m 0 #[.val (.int x0), .val (.ref x1), .val (.ref x2), .val (.ref x3), .val (.ref x4), .val (.ref x5), .val (.ref x6), .val (.double x7), .second, .unset, .unset] [] := by first | (simp [entryFrame, mkF, argsToLocals, Value.category]; done) | rfl
def Q_ve0 (Z : State) (rr : Int32) (b1 : Addr) (b2 : Addr) (b3 : Addr) (b4 : Addr) (g1 : ClassId) (g2 : ClassId) (g3 : ClassId) (g4 : ClassId) (pa : Int32) (pb : Int32) (i1 : Int32) (i2 : Int32) (ia : Int32) (ib : Int32) (ic : Int32) (r0 : Int32) (r1 : Int32) (r2 : Int32) (b5 : Addr) (b6 : Addr) (g5 : ClassId) (g6 : ClassId) (w1 : UInt64) (w2 : UInt64) (u0 : UInt64) (u1 : UInt64) (u2 : UInt64) (fa : UInt64) (yv0 : UInt64) (ev0 : UInt64) (yv1 : UInt64) (ev1 : UInt64) (yv2 : UInt64) (ev2 : UInt64) (yv3 : UInt64) (ev3 : UInt64) (yv4 : UInt64) (ev4 : UInt64) (h0 : Heap) (n0 : Nat) (v : Option Value) (h : Heap) (L : List Loc) : Prop := v = some (.double ev4) ∧ Fr n0 L ∧ h = h0
set_option maxRecDepth 65536 in
set_option maxHeartbeats 40000000 in
theorem ve0 (l : Launch) (Z : State) (a0 : Array Value) (hw : ∀ d ∈ tables_1, d.before a0 Z = true) (ws : List Jvm.Cond) (rr : Int32) (b1 : Addr) (b2 : Addr) (b3 : Addr) (b4 : Addr) (g1 : ClassId) (g2 : ClassId) (g3 : ClassId) (g4 : ClassId) (pa : Int32) (pb : Int32) (i1 : Int32) (i2 : Int32) (ia : Int32) (ib : Int32) (ic : Int32) (r0 : Int32) (r1 : Int32) (r2 : Int32) (b5 : Addr) (b6 : Addr) (g5 : ClassId) (g6 : ClassId) (w1 : UInt64) (w2 : UInt64) (u0 : UInt64) (u1 : UInt64) (u2 : UInt64) (fa : UInt64) (yv0 : UInt64) (ev0 : UInt64) (yv1 : UInt64) (ev1 : UInt64) (yv2 : UInt64) (ev2 : UInt64) (yv3 : UInt64) (ev3 : UInt64) (yv4 : UInt64) (ev4 : UInt64) (h0 : Heap) (n0 : Nat) (Z0 : n0 ≤ h0.size) (V_b1 : Arv Z h0 b1 g1 .boolean (2 : Int32) [(.int pa), (.int pb)] (.int (0 : Int32))) (V_b2 : Arv Z h0 b2 g2 .int (2 : Int32) [(.int i1), (.int i2)] (.int (0 : Int32))) (V_b3 : Arv Z h0 b3 g3 .boolean (3 : Int32) [(.int ia), (.int ib), (.int ic)] (.int (0 : Int32))) (V_b4 : Arv Z h0 b4 g4 .int (3 : Int32) [(.int r0), (.int r1), (.int r2)] (.int (0 : Int32))) (V_b5 : Arv Z h0 b5 g5 .double (2 : Int32) [(.double w1), (.double w2)] (.double (0 : UInt64))) (V_b6 : Arv Z h0 b6 g6 .double (3 : Int32) [(.double u0), (.double u1), (.double u2)] (.double (0 : UInt64))) (nn21 : Jvm.Free.Fl.NoNaN64 (FP.dadd (0 : UInt64) w1)) (hj_yv0 : (if i1 = rr then (FP.dadd (0 : UInt64) w1) else (0 : UInt64)) = yv0) (hj_ev0 : (if pa = (0 : Int32) then (0 : UInt64) else yv0) = ev0) (nn42 : Jvm.Free.Fl.NoNaN64 (FP.dadd ev0 w2)) (hj_yv1 : (if i2 = rr then (FP.dadd ev0 w2) else ev0) = yv1) (hj_ev1 : (if pb = (0 : Int32) then ev0 else yv1) = ev1) (nn68 : Jvm.Free.Fl.NoNaN64 (FP.dmul u0 fa)) (nn69 : Jvm.Free.Fl.NoNaN64 (FP.dsub ev1 (FP.dmul u0 fa))) (hj_yv2 : (if r0 = rr then (FP.dsub ev1 (FP.dmul u0 fa)) else ev1) = yv2) (hj_ev2 : (if ia = (0 : Int32) then ev1 else yv2) = ev2) (nn95 : Jvm.Free.Fl.NoNaN64 (FP.dmul u1 fa)) (nn96 : Jvm.Free.Fl.NoNaN64 (FP.dsub ev2 (FP.dmul u1 fa))) (hj_yv3 : (if r1 = rr then (FP.dsub ev2 (FP.dmul u1 fa)) else ev2) = yv3) (hj_ev3 : (if ib = (0 : Int32) then ev2 else yv3) = ev3) (nn122 : Jvm.Free.Fl.NoNaN64 (FP.dmul u2 fa)) (nn123 : Jvm.Free.Fl.NoNaN64 (FP.dsub ev3 (FP.dmul u2 fa))) (hj_yv4 : (if r2 = rr then (FP.dsub ev3 (FP.dmul u2 fa)) else ev3) = yv4) (hj_ev4 : (if ic = (0 : Int32) then ev3 else yv4) = ev4) :
    MetFree l (⟨"com/example/leeway/leeway/lp/SparseColumnSubtractPinLaw", "valueExpected", "(I[Z[I[D[Z[I[DD)D"⟩ : MethodName) (head1 (Jvm.Cond.code (⟨"com/example/leeway/leeway/lp/SparseColumnSubtractPinLaw", "valueExpected", "(I[Z[I[D[Z[I[DD)D"⟩ : MethodName) method_4_code 11 (some .double) :: ws) ({ frames := 0, cells := 0, slots := 0, locals := 0 } : Room)) (fun a U => a = #[(.int rr), (.ref b1), (.ref b2), (.ref b5), (.ref b3), (.ref b4), (.ref b6), (.double fa)] ∧ Z.Warmed39 U.vm ∧ U.heap = h0) (fun _ _ _ _ _ => True) (fun _ U o U' => ∃ v L, o = .returned v ∧ Q_ve0 Z rr b1 b2 b3 b4 g1 g2 g3 g4 pa pb i1 i2 ia ib ic r0 r1 r2 b5 b6 g5 g6 w1 w2 u0 u1 u2 fa yv0 ev0 yv1 ev1 yv2 ev2 yv3 ev3 yv4 ev4 h0 n0 v U'.heap L ∧ FrameEnd U o U' L ({ frames := 0, cells := 0, slots := 0, locals := 0 } : Room).cells ({ frames := 0, cells := 0, slots := 0, locals := 0 } : Room).slots) := by
  refine MetFree.of_bodySF (plainFor_of_name pn_com_example_leeway_leeway_lp_SparseColumnSubtractPinLaw) hisR ?_
  intro p e s m args below meth c s₁ Bd hml0 hP hK
  obtain ⟨rfl, hZ, hh⟩ := hP
  have hx := Bd.exec
  have hby := Bd.bytes
  have hml : c.maxLocals = 11 := hml0
  have hown : s.vm.findClass "com/example/leeway/leeway/lp/SparseColumnSubtractPinLaw" = some m.cls := findClass_of_methodNamed Bd.named
  have hnm := (name_of_methodNamed Bd.named Bd.method).1
  have X0 : Stand p l e ({ frames := 0, cells := 0, slots := 0, locals := 0 } : Room) s m #[(.int rr), (.ref b1), (.ref b2), (.ref b5), (.ref b3), (.ref b4), (.ref b6), (.double fa)] below meth c s₁ [] 0 0 := Stand.of_body Bd
  have e0 : s₁.heap = h0 := by rw [← hh, Bd.state]; rfl
  have N0 := Fr.nil n0
  have pre0 : ∀ t, Steps p.tables e below (s₁.setTop (mkF m 0 #[.val (.int rr), .val (.ref b1), .val (.ref b2), .val (.ref b5), .val (.ref b3), .val (.ref b4), .val (.ref b6), .val (.double fa), .second, .unset, .unset] [])) t → Steps p.tables e below (s₁.setTop (entryFrame m #[(.int rr), (.ref b1), (.ref b2), (.ref b5), (.ref b3), (.ref b4), (.ref b6), (.double fa)] 11)) t := fun t k => castTop (ef_9_IRRRRRRD m rr b1 b2 b5 b3 b4 b6 fa) k
  obtain ⟨cq1, Arq1, -, Sq1, -, Hq1, -⟩ := id V_b1
  obtain ⟨cq2, Arq2, -, Sq2, -, Hq2, -⟩ := id V_b2
  obtain ⟨cq3, Arq3, -, Sq3, -, Hq3, -⟩ := id V_b5
  have jn4 : ∀ target, Steps p.tables e below (s₁.setTop (mkF m 24 #[.val (.int rr), .val (.ref b1), .val (.ref b2), .val (.ref b5), .val (.ref b3), .val (.ref b4), .val (.ref b6), .val (.double fa), .second, .val (.double yv0), .second] [])) target → Steps p.tables e below (s₁.setTop (mkF m 13 #[.val (.int rr), .val (.ref b1), .val (.ref b2), .val (.ref b5), .val (.ref b3), .val (.ref b4), .val (.ref b6), .val (.double fa), .second, .val (.double (0 : UInt64)), .second] [(.int rr), (.int i1)])) target := by
    intro target kt
    by_cases hq : i1 = rr
    · rw [← ((if_pos hq).symm.trans hj_yv0)] at kt
      show Steps p.tables e below (s₁.setTop (mkF m 13 #[.val (.int rr), .val (.ref b1), .val (.ref b2), .val (.ref b5), .val (.ref b3), .val (.ref b4), .val (.ref b6), .val (.double fa), .second, .val (.double (0 : UInt64)), .second] [(.int rr), (.int i1)])) _
      refine XS.icmpNo X0.here hx rfl (hb hby d9_13) rfl (teq hq).2 ?_
      refine XS.dload X0.here hx rfl (hb hby d9_16) rfl ?_
      refine XS.aloadN X0.here hx rfl (hb hby d9_18) rfl rfl ?_
      refine XS.iconst X0.here hx rfl (hb hby d9_19) ?_
      refine X0.daload hx (j := (0 : Int32)) (v := (.double w1)) (by rw [e0]; exact Arq3.1) (State.isArrayOf_alike hZ.alike Arq3.2.1) Arq3.2.2 (inb_of Sq3 ⟨by decide, by decide⟩) (Has.at Hq3 (inb_of Sq3 ⟨by decide, by decide⟩) rfl) (g := (mkF m 20 #[.val (.int rr), .val (.ref b1), .val (.ref b2), .val (.ref b5), .val (.ref b3), .val (.ref b4), .val (.ref b6), .val (.double fa), .second, .val (.double (0 : UInt64)), .second] [(.int (0 : Int32)), (.ref b5), (.double (0 : UInt64))])) rfl rfl (hb hby d9_20) _ ?_
      show Steps p.tables e below (s₁.setTop (mkF m 21 #[.val (.int rr), .val (.ref b1), .val (.ref b2), .val (.ref b5), .val (.ref b3), .val (.ref b4), .val (.ref b6), .val (.double fa), .second, .val (.double (0 : UInt64)), .second] [(.double w1), (.double (0 : UInt64))])) _
      refine XS.daddS X0.here hx rfl (hb hby d9_21) rfl nn21 (v := (FP.dadd (0 : UInt64) w1)) rfl ?_
      show Steps p.tables e below (s₁.setTop (mkF m 22 #[.val (.int rr), .val (.ref b1), .val (.ref b2), .val (.ref b5), .val (.ref b3), .val (.ref b4), .val (.ref b6), .val (.double fa), .second, .val (.double (0 : UInt64)), .second] [(.double (FP.dadd (0 : UInt64) w1))])) _
      refine XS.dstore X0.here hx rfl (hb hby d9_22) rfl (l' := #[.val (.int rr), .val (.ref b1), .val (.ref b2), .val (.ref b5), .val (.ref b3), .val (.ref b4), .val (.ref b6), .val (.double fa), .second, .val (.double (FP.dadd (0 : UInt64) w1)), .second]) rfl ?_
      show Steps p.tables e below (s₁.setTop (mkF m 24 #[.val (.int rr), .val (.ref b1), .val (.ref b2), .val (.ref b5), .val (.ref b3), .val (.ref b4), .val (.ref b6), .val (.double fa), .second, .val (.double (FP.dadd (0 : UInt64) w1)), .second] [])) _
      exact kt
    · rw [← ((if_neg hq).symm.trans hj_yv0)] at kt
      show Steps p.tables e below (s₁.setTop (mkF m 13 #[.val (.int rr), .val (.ref b1), .val (.ref b2), .val (.ref b5), .val (.ref b3), .val (.ref b4), .val (.ref b6), .val (.double fa), .second, .val (.double (0 : UInt64)), .second] [(.int rr), (.int i1)])) _
      refine XS.icmpYes X0.here hx rfl (pc0 := 13) (pc' := 24) rfl (hb hby d9_13) rfl (feq hq).2 (by decide) (by decide) ?_
      show Steps p.tables e below (s₁.setTop (mkF m 24 #[.val (.int rr), .val (.ref b1), .val (.ref b2), .val (.ref b5), .val (.ref b3), .val (.ref b4), .val (.ref b6), .val (.double fa), .second, .val (.double (0 : UInt64)), .second] [])) _
      exact kt
  have jn5 : ∀ target, Steps p.tables e below (s₁.setTop (mkF m 24 #[.val (.int rr), .val (.ref b1), .val (.ref b2), .val (.ref b5), .val (.ref b3), .val (.ref b4), .val (.ref b6), .val (.double fa), .second, .val (.double ev0), .second] [])) target → Steps p.tables e below (s₁.setTop (mkF m 6 #[.val (.int rr), .val (.ref b1), .val (.ref b2), .val (.ref b5), .val (.ref b3), .val (.ref b4), .val (.ref b6), .val (.double fa), .second, .val (.double (0 : UInt64)), .second] [(.int pa)])) target := by
    intro target kt
    by_cases hq : pa = (0 : Int32)
    · rw [← ((if_pos hq).symm.trans hj_ev0)] at kt
      show Steps p.tables e below (s₁.setTop (mkF m 6 #[.val (.int rr), .val (.ref b1), .val (.ref b2), .val (.ref b5), .val (.ref b3), .val (.ref b4), .val (.ref b6), .val (.double fa), .second, .val (.double (0 : UInt64)), .second] [(.int pa)])) _
      refine XS.ifYes X0.here hx rfl (pc0 := 6) (pc' := 24) rfl (hb hby d9_6) rfl ((if0 _ _).trans (teq hq).1) (by decide) (by decide) ?_
      show Steps p.tables e below (s₁.setTop (mkF m 24 #[.val (.int rr), .val (.ref b1), .val (.ref b2), .val (.ref b5), .val (.ref b3), .val (.ref b4), .val (.ref b6), .val (.double fa), .second, .val (.double (0 : UInt64)), .second] [])) _
      exact kt
    · rw [← ((if_neg hq).symm.trans hj_ev0)] at kt
      show Steps p.tables e below (s₁.setTop (mkF m 6 #[.val (.int rr), .val (.ref b1), .val (.ref b2), .val (.ref b5), .val (.ref b3), .val (.ref b4), .val (.ref b6), .val (.double fa), .second, .val (.double (0 : UInt64)), .second] [(.int pa)])) _
      refine XS.ifNo X0.here hx rfl (hb hby d9_6) rfl ((if0 _ _).trans (feq hq).1) ?_
      refine XS.aloadN X0.here hx rfl (hb hby d9_9) rfl rfl ?_
      refine XS.iconst X0.here hx rfl (hb hby d9_10) ?_
      refine X0.iaload hx (j := (0 : Int32)) (v := (.int i1)) (by rw [e0]; exact Arq2.1) (State.isArrayOf_alike hZ.alike Arq2.2.1) Arq2.2.2 (inb_of Sq2 ⟨by decide, by decide⟩) (Has.at Hq2 (inb_of Sq2 ⟨by decide, by decide⟩) rfl) (g := (mkF m 11 #[.val (.int rr), .val (.ref b1), .val (.ref b2), .val (.ref b5), .val (.ref b3), .val (.ref b4), .val (.ref b6), .val (.double fa), .second, .val (.double (0 : UInt64)), .second] [(.int (0 : Int32)), (.ref b2)])) rfl rfl (hb hby d9_11) _ ?_
      show Steps p.tables e below (s₁.setTop (mkF m 12 #[.val (.int rr), .val (.ref b1), .val (.ref b2), .val (.ref b5), .val (.ref b3), .val (.ref b4), .val (.ref b6), .val (.double fa), .second, .val (.double (0 : UInt64)), .second] [(.int i1)])) _
      refine XS.iloadN X0.here hx rfl (hb hby d9_12) rfl ?_
      show Steps p.tables e below (s₁.setTop (mkF m 13 #[.val (.int rr), .val (.ref b1), .val (.ref b2), .val (.ref b5), .val (.ref b3), .val (.ref b4), .val (.ref b6), .val (.double fa), .second, .val (.double (0 : UInt64)), .second] [(.int rr), (.int i1)])) _
      refine jn4 _ ?_
      show Steps p.tables e below (s₁.setTop (mkF m 24 #[.val (.int rr), .val (.ref b1), .val (.ref b2), .val (.ref b5), .val (.ref b3), .val (.ref b4), .val (.ref b6), .val (.double fa), .second, .val (.double yv0), .second] [])) _
      exact kt
  obtain ⟨cq6, Arq6, -, Sq6, -, Hq6, -⟩ := id V_b1
  obtain ⟨cq7, Arq7, -, Sq7, -, Hq7, -⟩ := id V_b2
  obtain ⟨cq8, Arq8, -, Sq8, -, Hq8, -⟩ := id V_b5
  have jn9 : ∀ target, Steps p.tables e below (s₁.setTop (mkF m 45 #[.val (.int rr), .val (.ref b1), .val (.ref b2), .val (.ref b5), .val (.ref b3), .val (.ref b4), .val (.ref b6), .val (.double fa), .second, .val (.double yv1), .second] [])) target → Steps p.tables e below (s₁.setTop (mkF m 34 #[.val (.int rr), .val (.ref b1), .val (.ref b2), .val (.ref b5), .val (.ref b3), .val (.ref b4), .val (.ref b6), .val (.double fa), .second, .val (.double ev0), .second] [(.int rr), (.int i2)])) target := by
    intro target kt
    by_cases hq : i2 = rr
    · rw [← ((if_pos hq).symm.trans hj_yv1)] at kt
      show Steps p.tables e below (s₁.setTop (mkF m 34 #[.val (.int rr), .val (.ref b1), .val (.ref b2), .val (.ref b5), .val (.ref b3), .val (.ref b4), .val (.ref b6), .val (.double fa), .second, .val (.double ev0), .second] [(.int rr), (.int i2)])) _
      refine XS.icmpNo X0.here hx rfl (hb hby d9_34) rfl (teq hq).2 ?_
      refine XS.dload X0.here hx rfl (hb hby d9_37) rfl ?_
      refine XS.aloadN X0.here hx rfl (hb hby d9_39) rfl rfl ?_
      refine XS.iconst X0.here hx rfl (hb hby d9_40) ?_
      refine X0.daload hx (j := (1 : Int32)) (v := (.double w2)) (by rw [e0]; exact Arq8.1) (State.isArrayOf_alike hZ.alike Arq8.2.1) Arq8.2.2 (inb_of Sq8 ⟨by decide, by decide⟩) (Has.at Hq8 (inb_of Sq8 ⟨by decide, by decide⟩) rfl) (g := (mkF m 41 #[.val (.int rr), .val (.ref b1), .val (.ref b2), .val (.ref b5), .val (.ref b3), .val (.ref b4), .val (.ref b6), .val (.double fa), .second, .val (.double ev0), .second] [(.int (1 : Int32)), (.ref b5), (.double ev0)])) rfl rfl (hb hby d9_41) _ ?_
      show Steps p.tables e below (s₁.setTop (mkF m 42 #[.val (.int rr), .val (.ref b1), .val (.ref b2), .val (.ref b5), .val (.ref b3), .val (.ref b4), .val (.ref b6), .val (.double fa), .second, .val (.double ev0), .second] [(.double w2), (.double ev0)])) _
      refine XS.daddS X0.here hx rfl (hb hby d9_42) rfl nn42 (v := (FP.dadd ev0 w2)) rfl ?_
      refine XS.dstore X0.here hx rfl (hb hby d9_43) rfl (l' := #[.val (.int rr), .val (.ref b1), .val (.ref b2), .val (.ref b5), .val (.ref b3), .val (.ref b4), .val (.ref b6), .val (.double fa), .second, .val (.double (FP.dadd ev0 w2)), .second]) rfl ?_
      show Steps p.tables e below (s₁.setTop (mkF m 45 #[.val (.int rr), .val (.ref b1), .val (.ref b2), .val (.ref b5), .val (.ref b3), .val (.ref b4), .val (.ref b6), .val (.double fa), .second, .val (.double (FP.dadd ev0 w2)), .second] [])) _
      exact kt
    · rw [← ((if_neg hq).symm.trans hj_yv1)] at kt
      show Steps p.tables e below (s₁.setTop (mkF m 34 #[.val (.int rr), .val (.ref b1), .val (.ref b2), .val (.ref b5), .val (.ref b3), .val (.ref b4), .val (.ref b6), .val (.double fa), .second, .val (.double ev0), .second] [(.int rr), (.int i2)])) _
      refine XS.icmpYes X0.here hx rfl (pc0 := 34) (pc' := 45) rfl (hb hby d9_34) rfl (feq hq).2 (by decide) (by decide) ?_
      show Steps p.tables e below (s₁.setTop (mkF m 45 #[.val (.int rr), .val (.ref b1), .val (.ref b2), .val (.ref b5), .val (.ref b3), .val (.ref b4), .val (.ref b6), .val (.double fa), .second, .val (.double ev0), .second] [])) _
      exact kt
  have jn10 : ∀ target, Steps p.tables e below (s₁.setTop (mkF m 45 #[.val (.int rr), .val (.ref b1), .val (.ref b2), .val (.ref b5), .val (.ref b3), .val (.ref b4), .val (.ref b6), .val (.double fa), .second, .val (.double ev1), .second] [])) target → Steps p.tables e below (s₁.setTop (mkF m 27 #[.val (.int rr), .val (.ref b1), .val (.ref b2), .val (.ref b5), .val (.ref b3), .val (.ref b4), .val (.ref b6), .val (.double fa), .second, .val (.double ev0), .second] [(.int pb)])) target := by
    intro target kt
    by_cases hq : pb = (0 : Int32)
    · rw [← ((if_pos hq).symm.trans hj_ev1)] at kt
      show Steps p.tables e below (s₁.setTop (mkF m 27 #[.val (.int rr), .val (.ref b1), .val (.ref b2), .val (.ref b5), .val (.ref b3), .val (.ref b4), .val (.ref b6), .val (.double fa), .second, .val (.double ev0), .second] [(.int pb)])) _
      refine XS.ifYes X0.here hx rfl (pc0 := 27) (pc' := 45) rfl (hb hby d9_27) rfl ((if0 _ _).trans (teq hq).1) (by decide) (by decide) ?_
      show Steps p.tables e below (s₁.setTop (mkF m 45 #[.val (.int rr), .val (.ref b1), .val (.ref b2), .val (.ref b5), .val (.ref b3), .val (.ref b4), .val (.ref b6), .val (.double fa), .second, .val (.double ev0), .second] [])) _
      exact kt
    · rw [← ((if_neg hq).symm.trans hj_ev1)] at kt
      show Steps p.tables e below (s₁.setTop (mkF m 27 #[.val (.int rr), .val (.ref b1), .val (.ref b2), .val (.ref b5), .val (.ref b3), .val (.ref b4), .val (.ref b6), .val (.double fa), .second, .val (.double ev0), .second] [(.int pb)])) _
      refine XS.ifNo X0.here hx rfl (hb hby d9_27) rfl ((if0 _ _).trans (feq hq).1) ?_
      refine XS.aloadN X0.here hx rfl (hb hby d9_30) rfl rfl ?_
      refine XS.iconst X0.here hx rfl (hb hby d9_31) ?_
      refine X0.iaload hx (j := (1 : Int32)) (v := (.int i2)) (by rw [e0]; exact Arq7.1) (State.isArrayOf_alike hZ.alike Arq7.2.1) Arq7.2.2 (inb_of Sq7 ⟨by decide, by decide⟩) (Has.at Hq7 (inb_of Sq7 ⟨by decide, by decide⟩) rfl) (g := (mkF m 32 #[.val (.int rr), .val (.ref b1), .val (.ref b2), .val (.ref b5), .val (.ref b3), .val (.ref b4), .val (.ref b6), .val (.double fa), .second, .val (.double ev0), .second] [(.int (1 : Int32)), (.ref b2)])) rfl rfl (hb hby d9_32) _ ?_
      show Steps p.tables e below (s₁.setTop (mkF m 33 #[.val (.int rr), .val (.ref b1), .val (.ref b2), .val (.ref b5), .val (.ref b3), .val (.ref b4), .val (.ref b6), .val (.double fa), .second, .val (.double ev0), .second] [(.int i2)])) _
      refine XS.iloadN X0.here hx rfl (hb hby d9_33) rfl ?_
      show Steps p.tables e below (s₁.setTop (mkF m 34 #[.val (.int rr), .val (.ref b1), .val (.ref b2), .val (.ref b5), .val (.ref b3), .val (.ref b4), .val (.ref b6), .val (.double fa), .second, .val (.double ev0), .second] [(.int rr), (.int i2)])) _
      refine jn9 _ ?_
      show Steps p.tables e below (s₁.setTop (mkF m 45 #[.val (.int rr), .val (.ref b1), .val (.ref b2), .val (.ref b5), .val (.ref b3), .val (.ref b4), .val (.ref b6), .val (.double fa), .second, .val (.double yv1), .second] [])) _
      exact kt
  obtain ⟨cq11, Arq11, -, Sq11, -, Hq11, -⟩ := id V_b3
  obtain ⟨cq12, Arq12, -, Sq12, -, Hq12, -⟩ := id V_b4
  obtain ⟨cq13, Arq13, -, Sq13, -, Hq13, -⟩ := id V_b6
  have jn14 : ∀ target, Steps p.tables e below (s₁.setTop (mkF m 72 #[.val (.int rr), .val (.ref b1), .val (.ref b2), .val (.ref b5), .val (.ref b3), .val (.ref b4), .val (.ref b6), .val (.double fa), .second, .val (.double yv2), .second] [])) target → Steps p.tables e below (s₁.setTop (mkF m 57 #[.val (.int rr), .val (.ref b1), .val (.ref b2), .val (.ref b5), .val (.ref b3), .val (.ref b4), .val (.ref b6), .val (.double fa), .second, .val (.double ev1), .second] [(.int rr), (.int r0)])) target := by
    intro target kt
    by_cases hq : r0 = rr
    · rw [← ((if_pos hq).symm.trans hj_yv2)] at kt
      show Steps p.tables e below (s₁.setTop (mkF m 57 #[.val (.int rr), .val (.ref b1), .val (.ref b2), .val (.ref b5), .val (.ref b3), .val (.ref b4), .val (.ref b6), .val (.double fa), .second, .val (.double ev1), .second] [(.int rr), (.int r0)])) _
      refine XS.icmpNo X0.here hx rfl (hb hby d9_57) rfl (teq hq).2 ?_
      refine XS.dload X0.here hx rfl (hb hby d9_60) rfl ?_
      refine XS.aload X0.here hx rfl (hb hby d9_62) rfl rfl ?_
      refine XS.iconst X0.here hx rfl (hb hby d9_64) ?_
      show Steps p.tables e below (s₁.setTop (mkF m 65 #[.val (.int rr), .val (.ref b1), .val (.ref b2), .val (.ref b5), .val (.ref b3), .val (.ref b4), .val (.ref b6), .val (.double fa), .second, .val (.double ev1), .second] [(.int (0 : Int32)), (.ref b6), (.double ev1)])) _
      refine X0.daload hx (j := (0 : Int32)) (v := (.double u0)) (by rw [e0]; exact Arq13.1) (State.isArrayOf_alike hZ.alike Arq13.2.1) Arq13.2.2 (inb_of Sq13 ⟨by decide, by decide⟩) (Has.at Hq13 (inb_of Sq13 ⟨by decide, by decide⟩) rfl) (g := (mkF m 65 #[.val (.int rr), .val (.ref b1), .val (.ref b2), .val (.ref b5), .val (.ref b3), .val (.ref b4), .val (.ref b6), .val (.double fa), .second, .val (.double ev1), .second] [(.int (0 : Int32)), (.ref b6), (.double ev1)])) rfl rfl (hb hby d9_65) _ ?_
      show Steps p.tables e below (s₁.setTop (mkF m 66 #[.val (.int rr), .val (.ref b1), .val (.ref b2), .val (.ref b5), .val (.ref b3), .val (.ref b4), .val (.ref b6), .val (.double fa), .second, .val (.double ev1), .second] [(.double u0), (.double ev1)])) _
      refine XS.dload X0.here hx rfl (hb hby d9_66) rfl ?_
      refine XS.dmulS X0.here hx rfl (hb hby d9_68) rfl nn68 (v := (FP.dmul u0 fa)) rfl ?_
      refine XS.dsubS X0.here hx rfl (hb hby d9_69) rfl nn69 (v := (FP.dsub ev1 (FP.dmul u0 fa))) rfl ?_
      refine XS.dstore X0.here hx rfl (hb hby d9_70) rfl (l' := #[.val (.int rr), .val (.ref b1), .val (.ref b2), .val (.ref b5), .val (.ref b3), .val (.ref b4), .val (.ref b6), .val (.double fa), .second, .val (.double (FP.dsub ev1 (FP.dmul u0 fa))), .second]) rfl ?_
      show Steps p.tables e below (s₁.setTop (mkF m 72 #[.val (.int rr), .val (.ref b1), .val (.ref b2), .val (.ref b5), .val (.ref b3), .val (.ref b4), .val (.ref b6), .val (.double fa), .second, .val (.double (FP.dsub ev1 (FP.dmul u0 fa))), .second] [])) _
      exact kt
    · rw [← ((if_neg hq).symm.trans hj_yv2)] at kt
      show Steps p.tables e below (s₁.setTop (mkF m 57 #[.val (.int rr), .val (.ref b1), .val (.ref b2), .val (.ref b5), .val (.ref b3), .val (.ref b4), .val (.ref b6), .val (.double fa), .second, .val (.double ev1), .second] [(.int rr), (.int r0)])) _
      refine XS.icmpYes X0.here hx rfl (pc0 := 57) (pc' := 72) rfl (hb hby d9_57) rfl (feq hq).2 (by decide) (by decide) ?_
      show Steps p.tables e below (s₁.setTop (mkF m 72 #[.val (.int rr), .val (.ref b1), .val (.ref b2), .val (.ref b5), .val (.ref b3), .val (.ref b4), .val (.ref b6), .val (.double fa), .second, .val (.double ev1), .second] [])) _
      exact kt
  have jn15 : ∀ target, Steps p.tables e below (s₁.setTop (mkF m 72 #[.val (.int rr), .val (.ref b1), .val (.ref b2), .val (.ref b5), .val (.ref b3), .val (.ref b4), .val (.ref b6), .val (.double fa), .second, .val (.double ev2), .second] [])) target → Steps p.tables e below (s₁.setTop (mkF m 49 #[.val (.int rr), .val (.ref b1), .val (.ref b2), .val (.ref b5), .val (.ref b3), .val (.ref b4), .val (.ref b6), .val (.double fa), .second, .val (.double ev1), .second] [(.int ia)])) target := by
    intro target kt
    by_cases hq : ia = (0 : Int32)
    · rw [← ((if_pos hq).symm.trans hj_ev2)] at kt
      show Steps p.tables e below (s₁.setTop (mkF m 49 #[.val (.int rr), .val (.ref b1), .val (.ref b2), .val (.ref b5), .val (.ref b3), .val (.ref b4), .val (.ref b6), .val (.double fa), .second, .val (.double ev1), .second] [(.int ia)])) _
      refine XS.ifYes X0.here hx rfl (pc0 := 49) (pc' := 72) rfl (hb hby d9_49) rfl ((if0 _ _).trans (teq hq).1) (by decide) (by decide) ?_
      show Steps p.tables e below (s₁.setTop (mkF m 72 #[.val (.int rr), .val (.ref b1), .val (.ref b2), .val (.ref b5), .val (.ref b3), .val (.ref b4), .val (.ref b6), .val (.double fa), .second, .val (.double ev1), .second] [])) _
      exact kt
    · rw [← ((if_neg hq).symm.trans hj_ev2)] at kt
      show Steps p.tables e below (s₁.setTop (mkF m 49 #[.val (.int rr), .val (.ref b1), .val (.ref b2), .val (.ref b5), .val (.ref b3), .val (.ref b4), .val (.ref b6), .val (.double fa), .second, .val (.double ev1), .second] [(.int ia)])) _
      refine XS.ifNo X0.here hx rfl (hb hby d9_49) rfl ((if0 _ _).trans (feq hq).1) ?_
      refine XS.aload X0.here hx rfl (hb hby d9_52) rfl rfl ?_
      refine XS.iconst X0.here hx rfl (hb hby d9_54) ?_
      show Steps p.tables e below (s₁.setTop (mkF m 55 #[.val (.int rr), .val (.ref b1), .val (.ref b2), .val (.ref b5), .val (.ref b3), .val (.ref b4), .val (.ref b6), .val (.double fa), .second, .val (.double ev1), .second] [(.int (0 : Int32)), (.ref b4)])) _
      refine X0.iaload hx (j := (0 : Int32)) (v := (.int r0)) (by rw [e0]; exact Arq12.1) (State.isArrayOf_alike hZ.alike Arq12.2.1) Arq12.2.2 (inb_of Sq12 ⟨by decide, by decide⟩) (Has.at Hq12 (inb_of Sq12 ⟨by decide, by decide⟩) rfl) (g := (mkF m 55 #[.val (.int rr), .val (.ref b1), .val (.ref b2), .val (.ref b5), .val (.ref b3), .val (.ref b4), .val (.ref b6), .val (.double fa), .second, .val (.double ev1), .second] [(.int (0 : Int32)), (.ref b4)])) rfl rfl (hb hby d9_55) _ ?_
      show Steps p.tables e below (s₁.setTop (mkF m 56 #[.val (.int rr), .val (.ref b1), .val (.ref b2), .val (.ref b5), .val (.ref b3), .val (.ref b4), .val (.ref b6), .val (.double fa), .second, .val (.double ev1), .second] [(.int r0)])) _
      refine XS.iloadN X0.here hx rfl (hb hby d9_56) rfl ?_
      show Steps p.tables e below (s₁.setTop (mkF m 57 #[.val (.int rr), .val (.ref b1), .val (.ref b2), .val (.ref b5), .val (.ref b3), .val (.ref b4), .val (.ref b6), .val (.double fa), .second, .val (.double ev1), .second] [(.int rr), (.int r0)])) _
      refine jn14 _ ?_
      show Steps p.tables e below (s₁.setTop (mkF m 72 #[.val (.int rr), .val (.ref b1), .val (.ref b2), .val (.ref b5), .val (.ref b3), .val (.ref b4), .val (.ref b6), .val (.double fa), .second, .val (.double yv2), .second] [])) _
      exact kt
  obtain ⟨cq16, Arq16, -, Sq16, -, Hq16, -⟩ := id V_b3
  obtain ⟨cq17, Arq17, -, Sq17, -, Hq17, -⟩ := id V_b4
  obtain ⟨cq18, Arq18, -, Sq18, -, Hq18, -⟩ := id V_b6
  have jn19 : ∀ target, Steps p.tables e below (s₁.setTop (mkF m 99 #[.val (.int rr), .val (.ref b1), .val (.ref b2), .val (.ref b5), .val (.ref b3), .val (.ref b4), .val (.ref b6), .val (.double fa), .second, .val (.double yv3), .second] [])) target → Steps p.tables e below (s₁.setTop (mkF m 84 #[.val (.int rr), .val (.ref b1), .val (.ref b2), .val (.ref b5), .val (.ref b3), .val (.ref b4), .val (.ref b6), .val (.double fa), .second, .val (.double ev2), .second] [(.int rr), (.int r1)])) target := by
    intro target kt
    by_cases hq : r1 = rr
    · rw [← ((if_pos hq).symm.trans hj_yv3)] at kt
      show Steps p.tables e below (s₁.setTop (mkF m 84 #[.val (.int rr), .val (.ref b1), .val (.ref b2), .val (.ref b5), .val (.ref b3), .val (.ref b4), .val (.ref b6), .val (.double fa), .second, .val (.double ev2), .second] [(.int rr), (.int r1)])) _
      refine XS.icmpNo X0.here hx rfl (hb hby d9_84) rfl (teq hq).2 ?_
      show Steps p.tables e below (s₁.setTop (mkF m 87 #[.val (.int rr), .val (.ref b1), .val (.ref b2), .val (.ref b5), .val (.ref b3), .val (.ref b4), .val (.ref b6), .val (.double fa), .second, .val (.double ev2), .second] [])) _
      refine XS.dload X0.here hx rfl (hb hby d9_87) rfl ?_
      refine XS.aload X0.here hx rfl (hb hby d9_89) rfl rfl ?_
      refine XS.iconst X0.here hx rfl (hb hby d9_91) ?_
      refine X0.daload hx (j := (1 : Int32)) (v := (.double u1)) (by rw [e0]; exact Arq18.1) (State.isArrayOf_alike hZ.alike Arq18.2.1) Arq18.2.2 (inb_of Sq18 ⟨by decide, by decide⟩) (Has.at Hq18 (inb_of Sq18 ⟨by decide, by decide⟩) rfl) (g := (mkF m 92 #[.val (.int rr), .val (.ref b1), .val (.ref b2), .val (.ref b5), .val (.ref b3), .val (.ref b4), .val (.ref b6), .val (.double fa), .second, .val (.double ev2), .second] [(.int (1 : Int32)), (.ref b6), (.double ev2)])) rfl rfl (hb hby d9_92) _ ?_
      show Steps p.tables e below (s₁.setTop (mkF m 93 #[.val (.int rr), .val (.ref b1), .val (.ref b2), .val (.ref b5), .val (.ref b3), .val (.ref b4), .val (.ref b6), .val (.double fa), .second, .val (.double ev2), .second] [(.double u1), (.double ev2)])) _
      refine XS.dload X0.here hx rfl (hb hby d9_93) rfl ?_
      refine XS.dmulS X0.here hx rfl (hb hby d9_95) rfl nn95 (v := (FP.dmul u1 fa)) rfl ?_
      show Steps p.tables e below (s₁.setTop (mkF m 96 #[.val (.int rr), .val (.ref b1), .val (.ref b2), .val (.ref b5), .val (.ref b3), .val (.ref b4), .val (.ref b6), .val (.double fa), .second, .val (.double ev2), .second] [(.double (FP.dmul u1 fa)), (.double ev2)])) _
      refine XS.dsubS X0.here hx rfl (hb hby d9_96) rfl nn96 (v := (FP.dsub ev2 (FP.dmul u1 fa))) rfl ?_
      refine XS.dstore X0.here hx rfl (hb hby d9_97) rfl (l' := #[.val (.int rr), .val (.ref b1), .val (.ref b2), .val (.ref b5), .val (.ref b3), .val (.ref b4), .val (.ref b6), .val (.double fa), .second, .val (.double (FP.dsub ev2 (FP.dmul u1 fa))), .second]) rfl ?_
      show Steps p.tables e below (s₁.setTop (mkF m 99 #[.val (.int rr), .val (.ref b1), .val (.ref b2), .val (.ref b5), .val (.ref b3), .val (.ref b4), .val (.ref b6), .val (.double fa), .second, .val (.double (FP.dsub ev2 (FP.dmul u1 fa))), .second] [])) _
      exact kt
    · rw [← ((if_neg hq).symm.trans hj_yv3)] at kt
      show Steps p.tables e below (s₁.setTop (mkF m 84 #[.val (.int rr), .val (.ref b1), .val (.ref b2), .val (.ref b5), .val (.ref b3), .val (.ref b4), .val (.ref b6), .val (.double fa), .second, .val (.double ev2), .second] [(.int rr), (.int r1)])) _
      refine XS.icmpYes X0.here hx rfl (pc0 := 84) (pc' := 99) rfl (hb hby d9_84) rfl (feq hq).2 (by decide) (by decide) ?_
      show Steps p.tables e below (s₁.setTop (mkF m 99 #[.val (.int rr), .val (.ref b1), .val (.ref b2), .val (.ref b5), .val (.ref b3), .val (.ref b4), .val (.ref b6), .val (.double fa), .second, .val (.double ev2), .second] [])) _
      exact kt
  have jn20 : ∀ target, Steps p.tables e below (s₁.setTop (mkF m 99 #[.val (.int rr), .val (.ref b1), .val (.ref b2), .val (.ref b5), .val (.ref b3), .val (.ref b4), .val (.ref b6), .val (.double fa), .second, .val (.double ev3), .second] [])) target → Steps p.tables e below (s₁.setTop (mkF m 76 #[.val (.int rr), .val (.ref b1), .val (.ref b2), .val (.ref b5), .val (.ref b3), .val (.ref b4), .val (.ref b6), .val (.double fa), .second, .val (.double ev2), .second] [(.int ib)])) target := by
    intro target kt
    by_cases hq : ib = (0 : Int32)
    · rw [← ((if_pos hq).symm.trans hj_ev3)] at kt
      show Steps p.tables e below (s₁.setTop (mkF m 76 #[.val (.int rr), .val (.ref b1), .val (.ref b2), .val (.ref b5), .val (.ref b3), .val (.ref b4), .val (.ref b6), .val (.double fa), .second, .val (.double ev2), .second] [(.int ib)])) _
      refine XS.ifYes X0.here hx rfl (pc0 := 76) (pc' := 99) rfl (hb hby d9_76) rfl ((if0 _ _).trans (teq hq).1) (by decide) (by decide) ?_
      show Steps p.tables e below (s₁.setTop (mkF m 99 #[.val (.int rr), .val (.ref b1), .val (.ref b2), .val (.ref b5), .val (.ref b3), .val (.ref b4), .val (.ref b6), .val (.double fa), .second, .val (.double ev2), .second] [])) _
      exact kt
    · rw [← ((if_neg hq).symm.trans hj_ev3)] at kt
      show Steps p.tables e below (s₁.setTop (mkF m 76 #[.val (.int rr), .val (.ref b1), .val (.ref b2), .val (.ref b5), .val (.ref b3), .val (.ref b4), .val (.ref b6), .val (.double fa), .second, .val (.double ev2), .second] [(.int ib)])) _
      refine XS.ifNo X0.here hx rfl (hb hby d9_76) rfl ((if0 _ _).trans (feq hq).1) ?_
      refine XS.aload X0.here hx rfl (hb hby d9_79) rfl rfl ?_
      refine XS.iconst X0.here hx rfl (hb hby d9_81) ?_
      refine X0.iaload hx (j := (1 : Int32)) (v := (.int r1)) (by rw [e0]; exact Arq17.1) (State.isArrayOf_alike hZ.alike Arq17.2.1) Arq17.2.2 (inb_of Sq17 ⟨by decide, by decide⟩) (Has.at Hq17 (inb_of Sq17 ⟨by decide, by decide⟩) rfl) (g := (mkF m 82 #[.val (.int rr), .val (.ref b1), .val (.ref b2), .val (.ref b5), .val (.ref b3), .val (.ref b4), .val (.ref b6), .val (.double fa), .second, .val (.double ev2), .second] [(.int (1 : Int32)), (.ref b4)])) rfl rfl (hb hby d9_82) _ ?_
      show Steps p.tables e below (s₁.setTop (mkF m 83 #[.val (.int rr), .val (.ref b1), .val (.ref b2), .val (.ref b5), .val (.ref b3), .val (.ref b4), .val (.ref b6), .val (.double fa), .second, .val (.double ev2), .second] [(.int r1)])) _
      refine XS.iloadN X0.here hx rfl (hb hby d9_83) rfl ?_
      show Steps p.tables e below (s₁.setTop (mkF m 84 #[.val (.int rr), .val (.ref b1), .val (.ref b2), .val (.ref b5), .val (.ref b3), .val (.ref b4), .val (.ref b6), .val (.double fa), .second, .val (.double ev2), .second] [(.int rr), (.int r1)])) _
      refine jn19 _ ?_
      show Steps p.tables e below (s₁.setTop (mkF m 99 #[.val (.int rr), .val (.ref b1), .val (.ref b2), .val (.ref b5), .val (.ref b3), .val (.ref b4), .val (.ref b6), .val (.double fa), .second, .val (.double yv3), .second] [])) _
      exact kt
  obtain ⟨cq21, Arq21, -, Sq21, -, Hq21, -⟩ := id V_b3
  obtain ⟨cq22, Arq22, -, Sq22, -, Hq22, -⟩ := id V_b4
  obtain ⟨cq23, Arq23, -, Sq23, -, Hq23, -⟩ := id V_b6
  have jn24 : ∀ target, Steps p.tables e below (s₁.setTop (mkF m 126 #[.val (.int rr), .val (.ref b1), .val (.ref b2), .val (.ref b5), .val (.ref b3), .val (.ref b4), .val (.ref b6), .val (.double fa), .second, .val (.double yv4), .second] [])) target → Steps p.tables e below (s₁.setTop (mkF m 111 #[.val (.int rr), .val (.ref b1), .val (.ref b2), .val (.ref b5), .val (.ref b3), .val (.ref b4), .val (.ref b6), .val (.double fa), .second, .val (.double ev3), .second] [(.int rr), (.int r2)])) target := by
    intro target kt
    by_cases hq : r2 = rr
    · rw [← ((if_pos hq).symm.trans hj_yv4)] at kt
      show Steps p.tables e below (s₁.setTop (mkF m 111 #[.val (.int rr), .val (.ref b1), .val (.ref b2), .val (.ref b5), .val (.ref b3), .val (.ref b4), .val (.ref b6), .val (.double fa), .second, .val (.double ev3), .second] [(.int rr), (.int r2)])) _
      refine XS.icmpNo X0.here hx rfl (hb hby d9_111) rfl (teq hq).2 ?_
      refine XS.dload X0.here hx rfl (hb hby d9_114) rfl ?_
      refine XS.aload X0.here hx rfl (hb hby d9_116) rfl rfl ?_
      refine XS.iconst X0.here hx rfl (hb hby d9_118) ?_
      show Steps p.tables e below (s₁.setTop (mkF m 119 #[.val (.int rr), .val (.ref b1), .val (.ref b2), .val (.ref b5), .val (.ref b3), .val (.ref b4), .val (.ref b6), .val (.double fa), .second, .val (.double ev3), .second] [(.int (2 : Int32)), (.ref b6), (.double ev3)])) _
      refine X0.daload hx (j := (2 : Int32)) (v := (.double u2)) (by rw [e0]; exact Arq23.1) (State.isArrayOf_alike hZ.alike Arq23.2.1) Arq23.2.2 (inb_of Sq23 ⟨by decide, by decide⟩) (Has.at Hq23 (inb_of Sq23 ⟨by decide, by decide⟩) rfl) (g := (mkF m 119 #[.val (.int rr), .val (.ref b1), .val (.ref b2), .val (.ref b5), .val (.ref b3), .val (.ref b4), .val (.ref b6), .val (.double fa), .second, .val (.double ev3), .second] [(.int (2 : Int32)), (.ref b6), (.double ev3)])) rfl rfl (hb hby d9_119) _ ?_
      show Steps p.tables e below (s₁.setTop (mkF m 120 #[.val (.int rr), .val (.ref b1), .val (.ref b2), .val (.ref b5), .val (.ref b3), .val (.ref b4), .val (.ref b6), .val (.double fa), .second, .val (.double ev3), .second] [(.double u2), (.double ev3)])) _
      refine XS.dload X0.here hx rfl (hb hby d9_120) rfl ?_
      refine XS.dmulS X0.here hx rfl (hb hby d9_122) rfl nn122 (v := (FP.dmul u2 fa)) rfl ?_
      refine XS.dsubS X0.here hx rfl (hb hby d9_123) rfl nn123 (v := (FP.dsub ev3 (FP.dmul u2 fa))) rfl ?_
      refine XS.dstore X0.here hx rfl (hb hby d9_124) rfl (l' := #[.val (.int rr), .val (.ref b1), .val (.ref b2), .val (.ref b5), .val (.ref b3), .val (.ref b4), .val (.ref b6), .val (.double fa), .second, .val (.double (FP.dsub ev3 (FP.dmul u2 fa))), .second]) rfl ?_
      show Steps p.tables e below (s₁.setTop (mkF m 126 #[.val (.int rr), .val (.ref b1), .val (.ref b2), .val (.ref b5), .val (.ref b3), .val (.ref b4), .val (.ref b6), .val (.double fa), .second, .val (.double (FP.dsub ev3 (FP.dmul u2 fa))), .second] [])) _
      exact kt
    · rw [← ((if_neg hq).symm.trans hj_yv4)] at kt
      show Steps p.tables e below (s₁.setTop (mkF m 111 #[.val (.int rr), .val (.ref b1), .val (.ref b2), .val (.ref b5), .val (.ref b3), .val (.ref b4), .val (.ref b6), .val (.double fa), .second, .val (.double ev3), .second] [(.int rr), (.int r2)])) _
      refine XS.icmpYes X0.here hx rfl (pc0 := 111) (pc' := 126) rfl (hb hby d9_111) rfl (feq hq).2 (by decide) (by decide) ?_
      show Steps p.tables e below (s₁.setTop (mkF m 126 #[.val (.int rr), .val (.ref b1), .val (.ref b2), .val (.ref b5), .val (.ref b3), .val (.ref b4), .val (.ref b6), .val (.double fa), .second, .val (.double ev3), .second] [])) _
      exact kt
  have jn25 : ∀ target, Steps p.tables e below (s₁.setTop (mkF m 126 #[.val (.int rr), .val (.ref b1), .val (.ref b2), .val (.ref b5), .val (.ref b3), .val (.ref b4), .val (.ref b6), .val (.double fa), .second, .val (.double ev4), .second] [])) target → Steps p.tables e below (s₁.setTop (mkF m 103 #[.val (.int rr), .val (.ref b1), .val (.ref b2), .val (.ref b5), .val (.ref b3), .val (.ref b4), .val (.ref b6), .val (.double fa), .second, .val (.double ev3), .second] [(.int ic)])) target := by
    intro target kt
    by_cases hq : ic = (0 : Int32)
    · rw [← ((if_pos hq).symm.trans hj_ev4)] at kt
      show Steps p.tables e below (s₁.setTop (mkF m 103 #[.val (.int rr), .val (.ref b1), .val (.ref b2), .val (.ref b5), .val (.ref b3), .val (.ref b4), .val (.ref b6), .val (.double fa), .second, .val (.double ev3), .second] [(.int ic)])) _
      refine XS.ifYes X0.here hx rfl (pc0 := 103) (pc' := 126) rfl (hb hby d9_103) rfl ((if0 _ _).trans (teq hq).1) (by decide) (by decide) ?_
      show Steps p.tables e below (s₁.setTop (mkF m 126 #[.val (.int rr), .val (.ref b1), .val (.ref b2), .val (.ref b5), .val (.ref b3), .val (.ref b4), .val (.ref b6), .val (.double fa), .second, .val (.double ev3), .second] [])) _
      exact kt
    · rw [← ((if_neg hq).symm.trans hj_ev4)] at kt
      show Steps p.tables e below (s₁.setTop (mkF m 103 #[.val (.int rr), .val (.ref b1), .val (.ref b2), .val (.ref b5), .val (.ref b3), .val (.ref b4), .val (.ref b6), .val (.double fa), .second, .val (.double ev3), .second] [(.int ic)])) _
      refine XS.ifNo X0.here hx rfl (hb hby d9_103) rfl ((if0 _ _).trans (feq hq).1) ?_
      refine XS.aload X0.here hx rfl (hb hby d9_106) rfl rfl ?_
      refine XS.iconst X0.here hx rfl (hb hby d9_108) ?_
      show Steps p.tables e below (s₁.setTop (mkF m 109 #[.val (.int rr), .val (.ref b1), .val (.ref b2), .val (.ref b5), .val (.ref b3), .val (.ref b4), .val (.ref b6), .val (.double fa), .second, .val (.double ev3), .second] [(.int (2 : Int32)), (.ref b4)])) _
      refine X0.iaload hx (j := (2 : Int32)) (v := (.int r2)) (by rw [e0]; exact Arq22.1) (State.isArrayOf_alike hZ.alike Arq22.2.1) Arq22.2.2 (inb_of Sq22 ⟨by decide, by decide⟩) (Has.at Hq22 (inb_of Sq22 ⟨by decide, by decide⟩) rfl) (g := (mkF m 109 #[.val (.int rr), .val (.ref b1), .val (.ref b2), .val (.ref b5), .val (.ref b3), .val (.ref b4), .val (.ref b6), .val (.double fa), .second, .val (.double ev3), .second] [(.int (2 : Int32)), (.ref b4)])) rfl rfl (hb hby d9_109) _ ?_
      show Steps p.tables e below (s₁.setTop (mkF m 110 #[.val (.int rr), .val (.ref b1), .val (.ref b2), .val (.ref b5), .val (.ref b3), .val (.ref b4), .val (.ref b6), .val (.double fa), .second, .val (.double ev3), .second] [(.int r2)])) _
      refine XS.iloadN X0.here hx rfl (hb hby d9_110) rfl ?_
      show Steps p.tables e below (s₁.setTop (mkF m 111 #[.val (.int rr), .val (.ref b1), .val (.ref b2), .val (.ref b5), .val (.ref b3), .val (.ref b4), .val (.ref b6), .val (.double fa), .second, .val (.double ev3), .second] [(.int rr), (.int r2)])) _
      refine jn24 _ ?_
      show Steps p.tables e below (s₁.setTop (mkF m 126 #[.val (.int rr), .val (.ref b1), .val (.ref b2), .val (.ref b5), .val (.ref b3), .val (.ref b4), .val (.ref b6), .val (.double fa), .second, .val (.double yv4), .second] [])) _
      exact kt
  obtain ⟨fs, hr, hrun, hended, hW, hsame⟩ := X0.leave (v := some (.double ev4)) (fun h => by rw [Bd.returns] at h; cases h)
  refine ⟨_, _, pre0 _ ?_, hrun, hended, _, _, rfl, ?_, ⟨_, rfl⟩, hW, hsame.mono (by decide) (by decide)⟩
  · show Steps p.tables e below (s₁.setTop (mkF m 0 #[.val (.int rr), .val (.ref b1), .val (.ref b2), .val (.ref b5), .val (.ref b3), .val (.ref b4), .val (.ref b6), .val (.double fa), .second, .unset, .unset] [])) _
    refine XS.dconst0 X0.here hx rfl (hb hby d9_0) (v := (0 : UInt64)) rfl ?_
    refine XS.dstore X0.here hx rfl (hb hby d9_1) rfl (l' := #[.val (.int rr), .val (.ref b1), .val (.ref b2), .val (.ref b5), .val (.ref b3), .val (.ref b4), .val (.ref b6), .val (.double fa), .second, .val (.double (0 : UInt64)), .second]) rfl ?_
    refine XS.aloadN X0.here hx rfl (hb hby d9_3) rfl rfl ?_
    refine XS.iconst X0.here hx rfl (hb hby d9_4) ?_
    refine X0.baloadBooleans hx (j := (0 : Int32)) (v := (.int pa)) (by rw [e0]; exact Arq1.1) (State.isArrayOf_alike hZ.alike Arq1.2.1) Arq1.2.2 (inb_of Sq1 ⟨by decide, by decide⟩) (Has.at Hq1 (inb_of Sq1 ⟨by decide, by decide⟩) rfl) (g := (mkF m 5 #[.val (.int rr), .val (.ref b1), .val (.ref b2), .val (.ref b5), .val (.ref b3), .val (.ref b4), .val (.ref b6), .val (.double fa), .second, .val (.double (0 : UInt64)), .second] [(.int (0 : Int32)), (.ref b1)])) rfl rfl (hb hby d9_5) _ ?_
    show Steps p.tables e below (s₁.setTop (mkF m 6 #[.val (.int rr), .val (.ref b1), .val (.ref b2), .val (.ref b5), .val (.ref b3), .val (.ref b4), .val (.ref b6), .val (.double fa), .second, .val (.double (0 : UInt64)), .second] [(.int pa)])) _
    refine jn5 _ ?_
    show Steps p.tables e below (s₁.setTop (mkF m 24 #[.val (.int rr), .val (.ref b1), .val (.ref b2), .val (.ref b5), .val (.ref b3), .val (.ref b4), .val (.ref b6), .val (.double fa), .second, .val (.double ev0), .second] [])) _
    refine XS.aloadN X0.here hx rfl (hb hby d9_24) rfl rfl ?_
    refine XS.iconst X0.here hx rfl (hb hby d9_25) ?_
    show Steps p.tables e below (s₁.setTop (mkF m 26 #[.val (.int rr), .val (.ref b1), .val (.ref b2), .val (.ref b5), .val (.ref b3), .val (.ref b4), .val (.ref b6), .val (.double fa), .second, .val (.double ev0), .second] [(.int (1 : Int32)), (.ref b1)])) _
    refine X0.baloadBooleans hx (j := (1 : Int32)) (v := (.int pb)) (by rw [e0]; exact Arq6.1) (State.isArrayOf_alike hZ.alike Arq6.2.1) Arq6.2.2 (inb_of Sq6 ⟨by decide, by decide⟩) (Has.at Hq6 (inb_of Sq6 ⟨by decide, by decide⟩) rfl) (g := (mkF m 26 #[.val (.int rr), .val (.ref b1), .val (.ref b2), .val (.ref b5), .val (.ref b3), .val (.ref b4), .val (.ref b6), .val (.double fa), .second, .val (.double ev0), .second] [(.int (1 : Int32)), (.ref b1)])) rfl rfl (hb hby d9_26) _ ?_
    show Steps p.tables e below (s₁.setTop (mkF m 27 #[.val (.int rr), .val (.ref b1), .val (.ref b2), .val (.ref b5), .val (.ref b3), .val (.ref b4), .val (.ref b6), .val (.double fa), .second, .val (.double ev0), .second] [(.int pb)])) _
    refine jn10 _ ?_
    show Steps p.tables e below (s₁.setTop (mkF m 45 #[.val (.int rr), .val (.ref b1), .val (.ref b2), .val (.ref b5), .val (.ref b3), .val (.ref b4), .val (.ref b6), .val (.double fa), .second, .val (.double ev1), .second] [])) _
    refine XS.aload X0.here hx rfl (hb hby d9_45) rfl rfl ?_
    show Steps p.tables e below (s₁.setTop (mkF m 47 #[.val (.int rr), .val (.ref b1), .val (.ref b2), .val (.ref b5), .val (.ref b3), .val (.ref b4), .val (.ref b6), .val (.double fa), .second, .val (.double ev1), .second] [(.ref b3)])) _
    refine XS.iconst X0.here hx rfl (hb hby d9_47) ?_
    refine X0.baloadBooleans hx (j := (0 : Int32)) (v := (.int ia)) (by rw [e0]; exact Arq11.1) (State.isArrayOf_alike hZ.alike Arq11.2.1) Arq11.2.2 (inb_of Sq11 ⟨by decide, by decide⟩) (Has.at Hq11 (inb_of Sq11 ⟨by decide, by decide⟩) rfl) (g := (mkF m 48 #[.val (.int rr), .val (.ref b1), .val (.ref b2), .val (.ref b5), .val (.ref b3), .val (.ref b4), .val (.ref b6), .val (.double fa), .second, .val (.double ev1), .second] [(.int (0 : Int32)), (.ref b3)])) rfl rfl (hb hby d9_48) _ ?_
    show Steps p.tables e below (s₁.setTop (mkF m 49 #[.val (.int rr), .val (.ref b1), .val (.ref b2), .val (.ref b5), .val (.ref b3), .val (.ref b4), .val (.ref b6), .val (.double fa), .second, .val (.double ev1), .second] [(.int ia)])) _
    refine jn15 _ ?_
    show Steps p.tables e below (s₁.setTop (mkF m 72 #[.val (.int rr), .val (.ref b1), .val (.ref b2), .val (.ref b5), .val (.ref b3), .val (.ref b4), .val (.ref b6), .val (.double fa), .second, .val (.double ev2), .second] [])) _
    refine XS.aload X0.here hx rfl (hb hby d9_72) rfl rfl ?_
    refine XS.iconst X0.here hx rfl (hb hby d9_74) ?_
    refine X0.baloadBooleans hx (j := (1 : Int32)) (v := (.int ib)) (by rw [e0]; exact Arq16.1) (State.isArrayOf_alike hZ.alike Arq16.2.1) Arq16.2.2 (inb_of Sq16 ⟨by decide, by decide⟩) (Has.at Hq16 (inb_of Sq16 ⟨by decide, by decide⟩) rfl) (g := (mkF m 75 #[.val (.int rr), .val (.ref b1), .val (.ref b2), .val (.ref b5), .val (.ref b3), .val (.ref b4), .val (.ref b6), .val (.double fa), .second, .val (.double ev2), .second] [(.int (1 : Int32)), (.ref b3)])) rfl rfl (hb hby d9_75) _ ?_
    show Steps p.tables e below (s₁.setTop (mkF m 76 #[.val (.int rr), .val (.ref b1), .val (.ref b2), .val (.ref b5), .val (.ref b3), .val (.ref b4), .val (.ref b6), .val (.double fa), .second, .val (.double ev2), .second] [(.int ib)])) _
    refine jn20 _ ?_
    show Steps p.tables e below (s₁.setTop (mkF m 99 #[.val (.int rr), .val (.ref b1), .val (.ref b2), .val (.ref b5), .val (.ref b3), .val (.ref b4), .val (.ref b6), .val (.double fa), .second, .val (.double ev3), .second] [])) _
    refine XS.aload X0.here hx rfl (hb hby d9_99) rfl rfl ?_
    show Steps p.tables e below (s₁.setTop (mkF m 101 #[.val (.int rr), .val (.ref b1), .val (.ref b2), .val (.ref b5), .val (.ref b3), .val (.ref b4), .val (.ref b6), .val (.double fa), .second, .val (.double ev3), .second] [(.ref b3)])) _
    refine XS.iconst X0.here hx rfl (hb hby d9_101) ?_
    refine X0.baloadBooleans hx (j := (2 : Int32)) (v := (.int ic)) (by rw [e0]; exact Arq21.1) (State.isArrayOf_alike hZ.alike Arq21.2.1) Arq21.2.2 (inb_of Sq21 ⟨by decide, by decide⟩) (Has.at Hq21 (inb_of Sq21 ⟨by decide, by decide⟩) rfl) (g := (mkF m 102 #[.val (.int rr), .val (.ref b1), .val (.ref b2), .val (.ref b5), .val (.ref b3), .val (.ref b4), .val (.ref b6), .val (.double fa), .second, .val (.double ev3), .second] [(.int (2 : Int32)), (.ref b3)])) rfl rfl (hb hby d9_102) _ ?_
    show Steps p.tables e below (s₁.setTop (mkF m 103 #[.val (.int rr), .val (.ref b1), .val (.ref b2), .val (.ref b5), .val (.ref b3), .val (.ref b4), .val (.ref b6), .val (.double fa), .second, .val (.double ev3), .second] [(.int ic)])) _
    refine jn25 _ ?_
    show Steps p.tables e below (s₁.setTop (mkF m 126 #[.val (.int rr), .val (.ref b1), .val (.ref b2), .val (.ref b5), .val (.ref b3), .val (.ref b4), .val (.ref b6), .val (.double fa), .second, .val (.double ev4), .second] [])) _
    refine XS.dload X0.here hx rfl (hb hby d9_126) rfl ?_
    exact retOut X0 hx Bd.returns rfl (Or.inr (Or.inr (Or.inl ⟨rfl, rfl, _, rfl⟩))) (hb hby d9_128) hr
  · show Q_ve0 Z rr b1 b2 b3 b4 g1 g2 g3 g4 pa pb i1 i2 ia ib ic r0 r1 r2 b5 b6 g5 g6 w1 w2 u0 u1 u2 fa yv0 ev0 yv1 ev1 yv2 ev2 yv3 ev3 yv4 ev4 h0 n0 _ s₁.heap _
    rw [e0]
    exact ⟨rfl, N0, rfl⟩
def Q_veM (Z : State) (rr : Int32) (b1 : Addr) (b2 : Addr) (b3 : Addr) (b4 : Addr) (g1 : ClassId) (g2 : ClassId) (g3 : ClassId) (g4 : ClassId) (pa : Int32) (pb : Int32) (i1 : Int32) (i2 : Int32) (ia : Int32) (ib : Int32) (ic : Int32) (r0 : Int32) (r1 : Int32) (r2 : Int32) (b5 : Addr) (b6 : Addr) (g5 : ClassId) (g6 : ClassId) (w1 : UInt64) (w2 : UInt64) (u0 : UInt64) (u1 : UInt64) (u2 : UInt64) (fa : UInt64) (ev : UInt64) (h0 : Heap) (n0 : Nat) (v : Option Value) (h : Heap) (L : List Loc) : Prop := v = some (.double ev) ∧ Fr n0 L ∧ h = h0
set_option maxHeartbeats 40000000 in
theorem veM (l : Launch) (Z : State) (a0 : Array Value) (hw : ∀ d ∈ tables_1, d.before a0 Z = true) (ws : List Jvm.Cond) (rr : Int32) (b1 : Addr) (b2 : Addr) (b3 : Addr) (b4 : Addr) (g1 : ClassId) (g2 : ClassId) (g3 : ClassId) (g4 : ClassId) (pa : Int32) (pb : Int32) (i1 : Int32) (i2 : Int32) (ia : Int32) (ib : Int32) (ic : Int32) (r0 : Int32) (r1 : Int32) (r2 : Int32) (b5 : Addr) (b6 : Addr) (g5 : ClassId) (g6 : ClassId) (w1 : UInt64) (w2 : UInt64) (u0 : UInt64) (u1 : UInt64) (u2 : UInt64) (fa : UInt64) (ev : UInt64) (h0 : Heap) (n0 : Nat) (Z0 : n0 ≤ h0.size) (V_b1 : Arv Z h0 b1 g1 .boolean (2 : Int32) [(.int pa), (.int pb)] (.int (0 : Int32))) (V_b2 : Arv Z h0 b2 g2 .int (2 : Int32) [(.int i1), (.int i2)] (.int (0 : Int32))) (V_b3 : Arv Z h0 b3 g3 .boolean (3 : Int32) [(.int ia), (.int ib), (.int ic)] (.int (0 : Int32))) (V_b4 : Arv Z h0 b4 g4 .int (3 : Int32) [(.int r0), (.int r1), (.int r2)] (.int (0 : Int32))) (V_b5 : Arv Z h0 b5 g5 .double (2 : Int32) [(.double w1), (.double w2)] (.double (0 : UInt64))) (V_b6 : Arv Z h0 b6 g6 .double (3 : Int32) [(.double u0), (.double u1), (.double u2)] (.double (0 : UInt64))) (hev : ev = Jvm.OwnSC.ve rr pa pb i1 i2 ia ib ic r0 r1 r2 w1 w2 u0 u1 u2 fa) (hnn : Jvm.OwnSC.VN rr pa pb i1 i2 ia ib ic r0 r1 r2 w1 w2 u0 u1 u2 fa) :
    MetFree l (⟨"com/example/leeway/leeway/lp/SparseColumnSubtractPinLaw", "valueExpected", "(I[Z[I[D[Z[I[DD)D"⟩ : MethodName) (head1 (Jvm.Cond.code (⟨"com/example/leeway/leeway/lp/SparseColumnSubtractPinLaw", "valueExpected", "(I[Z[I[D[Z[I[DD)D"⟩ : MethodName) method_4_code 11 (some .double) :: ws) ({ frames := 0, cells := 0, slots := 0, locals := 0 } : Room)) (fun a U => a = #[(.int rr), (.ref b1), (.ref b2), (.ref b5), (.ref b3), (.ref b4), (.ref b6), (.double fa)] ∧ Z.Warmed39 U.vm ∧ U.heap = h0) (fun _ _ _ _ _ => True) (fun _ U o U' => ∃ v L, o = .returned v ∧ Q_veM Z rr b1 b2 b3 b4 g1 g2 g3 g4 pa pb i1 i2 ia ib ic r0 r1 r2 b5 b6 g5 g6 w1 w2 u0 u1 u2 fa ev h0 n0 v U'.heap L ∧ FrameEnd U o U' L ({ frames := 0, cells := 0, slots := 0, locals := 0 } : Room).cells ({ frames := 0, cells := 0, slots := 0, locals := 0 } : Room).slots) := by
  subst hev
  obtain ⟨nq0, nq1, nq2, nq3, nq4, nq5, nq6, nq7⟩ := hnn
  exact ve0 l Z a0 hw ws rr b1 b2 b3 b4 g1 g2 g3 g4 pa pb i1 i2 ia ib ic r0 r1 r2 b5 b6 g5 g6 w1 w2 u0 u1 u2 fa _ _ _ _ _ _ _ _ _ _ h0 n0 Z0 (V_b1 := V_b1) (V_b2 := V_b2) (V_b3 := V_b3) (V_b4 := V_b4) (V_b5 := V_b5) (V_b6 := V_b6) (hj_yv0 := rfl) (hj_ev0 := rfl) (hj_yv1 := rfl) (hj_ev1 := rfl) (hj_yv2 := rfl) (hj_ev2 := rfl) (hj_yv3 := rfl) (hj_ev3 := rfl) (hj_yv4 := rfl) (hj_ev4 := rfl) (nn21 := nq0) (nn42 := nq1) (nn68 := nq2) (nn69 := nq3) (nn95 := nq4) (nn96 := nq5) (nn122 := nq6) (nn123 := nq7)
theorem d1_0 : decode prog_87_method_1_code 0 = .ok (.aload_n 0, 1) := by decide +kernel
theorem d1_1 : decode prog_87_method_1_code 1 = .ok (.invokespecial 1, 3) := by decide +kernel
theorem d1_4 : decode prog_87_method_1_code 4 = .ok (.aload_n 0, 1) := by decide +kernel
theorem d1_5 : decode prog_87_method_1_code 5 = .ok (.iload_n 1, 1) := by decide +kernel
theorem d1_6 : decode prog_87_method_1_code 6 = .ok (.newarray .double, 2) := by decide +kernel
theorem d1_8 : decode prog_87_method_1_code 8 = .ok (.putfield 7, 3) := by decide +kernel
theorem so_SparseColumn_listed_values {Z : State} {a0 : Array Value} (hw : ∀ d ∈ tables_1, d.before a0 Z = true) : Jvm.RoadKit.slotOf Z "com/example/leeway/leeway/lp/SparseColumn" "listed" "[Z" ≠ Jvm.RoadKit.slotOf Z "com/example/leeway/leeway/lp/SparseColumn" "values" "[D" := slot_ne (Or.inr (hw _ (List.mem_of_getElem? (i := 15) rfl))) (Or.inr (hw _ (List.mem_of_getElem? (i := 13) rfl))) (by decide) (t := (.array .boolean)) (t' := (.array .double)) (by decide) (by decide)
theorem so_SparseColumn_rows_values {Z : State} {a0 : Array Value} (hw : ∀ d ∈ tables_1, d.before a0 Z = true) : Jvm.RoadKit.slotOf Z "com/example/leeway/leeway/lp/SparseColumn" "rows" "[I" ≠ Jvm.RoadKit.slotOf Z "com/example/leeway/leeway/lp/SparseColumn" "values" "[D" := slot_ne (Or.inr (hw _ (List.mem_of_getElem? (i := 17) rfl))) (Or.inr (hw _ (List.mem_of_getElem? (i := 13) rfl))) (by decide) (t := (.array .int)) (t' := (.array .double)) (by decide) (by decide)
theorem so_SparseColumn_count_values {Z : State} {a0 : Array Value} (hw : ∀ d ∈ tables_1, d.before a0 Z = true) : Jvm.RoadKit.slotOf Z "com/example/leeway/leeway/lp/SparseColumn" "count" "I" ≠ Jvm.RoadKit.slotOf Z "com/example/leeway/leeway/lp/SparseColumn" "values" "[D" := slot_ne (Or.inl (hw _ (List.mem_of_getElem? (i := 39) rfl))) (Or.inr (hw _ (List.mem_of_getElem? (i := 13) rfl))) (by decide) (t := .int) (t' := (.array .double)) (by decide) (by decide)
theorem d1_11 : decode prog_87_method_1_code 11 = .ok (.aload_n 0, 1) := by decide +kernel
theorem d1_12 : decode prog_87_method_1_code 12 = .ok (.iload_n 1, 1) := by decide +kernel
theorem d1_13 : decode prog_87_method_1_code 13 = .ok (.newarray .boolean, 2) := by decide +kernel
theorem d1_15 : decode prog_87_method_1_code 15 = .ok (.putfield 13, 3) := by decide +kernel
theorem so_SparseColumn_values_listed {Z : State} {a0 : Array Value} (hw : ∀ d ∈ tables_1, d.before a0 Z = true) : Jvm.RoadKit.slotOf Z "com/example/leeway/leeway/lp/SparseColumn" "values" "[D" ≠ Jvm.RoadKit.slotOf Z "com/example/leeway/leeway/lp/SparseColumn" "listed" "[Z" := slot_ne (Or.inr (hw _ (List.mem_of_getElem? (i := 13) rfl))) (Or.inr (hw _ (List.mem_of_getElem? (i := 15) rfl))) (by decide) (t := (.array .double)) (t' := (.array .boolean)) (by decide) (by decide)
theorem so_SparseColumn_rows_listed {Z : State} {a0 : Array Value} (hw : ∀ d ∈ tables_1, d.before a0 Z = true) : Jvm.RoadKit.slotOf Z "com/example/leeway/leeway/lp/SparseColumn" "rows" "[I" ≠ Jvm.RoadKit.slotOf Z "com/example/leeway/leeway/lp/SparseColumn" "listed" "[Z" := slot_ne (Or.inr (hw _ (List.mem_of_getElem? (i := 17) rfl))) (Or.inr (hw _ (List.mem_of_getElem? (i := 15) rfl))) (by decide) (t := (.array .int)) (t' := (.array .boolean)) (by decide) (by decide)
theorem so_SparseColumn_count_listed {Z : State} {a0 : Array Value} (hw : ∀ d ∈ tables_1, d.before a0 Z = true) : Jvm.RoadKit.slotOf Z "com/example/leeway/leeway/lp/SparseColumn" "count" "I" ≠ Jvm.RoadKit.slotOf Z "com/example/leeway/leeway/lp/SparseColumn" "listed" "[Z" := slot_ne (Or.inl (hw _ (List.mem_of_getElem? (i := 39) rfl))) (Or.inr (hw _ (List.mem_of_getElem? (i := 15) rfl))) (by decide) (t := .int) (t' := (.array .boolean)) (by decide) (by decide)
theorem d1_18 : decode prog_87_method_1_code 18 = .ok (.aload_n 0, 1) := by decide +kernel
theorem d1_19 : decode prog_87_method_1_code 19 = .ok (.iload_n 1, 1) := by decide +kernel
theorem d1_20 : decode prog_87_method_1_code 20 = .ok (.newarray .int, 2) := by decide +kernel
theorem d1_22 : decode prog_87_method_1_code 22 = .ok (.putfield 17, 3) := by decide +kernel
theorem so_SparseColumn_values_rows {Z : State} {a0 : Array Value} (hw : ∀ d ∈ tables_1, d.before a0 Z = true) : Jvm.RoadKit.slotOf Z "com/example/leeway/leeway/lp/SparseColumn" "values" "[D" ≠ Jvm.RoadKit.slotOf Z "com/example/leeway/leeway/lp/SparseColumn" "rows" "[I" := slot_ne (Or.inr (hw _ (List.mem_of_getElem? (i := 13) rfl))) (Or.inr (hw _ (List.mem_of_getElem? (i := 17) rfl))) (by decide) (t := (.array .double)) (t' := (.array .int)) (by decide) (by decide)
theorem so_SparseColumn_listed_rows {Z : State} {a0 : Array Value} (hw : ∀ d ∈ tables_1, d.before a0 Z = true) : Jvm.RoadKit.slotOf Z "com/example/leeway/leeway/lp/SparseColumn" "listed" "[Z" ≠ Jvm.RoadKit.slotOf Z "com/example/leeway/leeway/lp/SparseColumn" "rows" "[I" := slot_ne (Or.inr (hw _ (List.mem_of_getElem? (i := 15) rfl))) (Or.inr (hw _ (List.mem_of_getElem? (i := 17) rfl))) (by decide) (t := (.array .boolean)) (t' := (.array .int)) (by decide) (by decide)
theorem so_SparseColumn_count_rows {Z : State} {a0 : Array Value} (hw : ∀ d ∈ tables_1, d.before a0 Z = true) : Jvm.RoadKit.slotOf Z "com/example/leeway/leeway/lp/SparseColumn" "count" "I" ≠ Jvm.RoadKit.slotOf Z "com/example/leeway/leeway/lp/SparseColumn" "rows" "[I" := slot_ne (Or.inl (hw _ (List.mem_of_getElem? (i := 39) rfl))) (Or.inr (hw _ (List.mem_of_getElem? (i := 17) rfl))) (by decide) (t := .int) (t' := (.array .int)) (by decide) (by decide)
theorem d1_25 : decode prog_87_method_1_code 25 = .ok (.return_, 1) := by decide +kernel
theorem ef_1_Rl_4___Int32_ (m : MethodId) (x0 : Addr) : entryFrame m #[(.ref x0), (.int (4 : Int32))] 2 = mkF m 0 #[.val (.ref x0), .val (.int (4 : Int32))] [] := by first | (simp [entryFrame, mkF, argsToLocals, Value.category]; done) | rfl
def Q_sci (Z : State) (o0 : Addr) (h0 : Heap) (n0 : Nat) (v : Option Value) (h : Heap) (L : List Loc) : Prop := (∃ (b2 : Addr) (b15 : Addr) (b30 : Addr) (k2 : ClassId) (k15 : ClassId) (k30 : ClassId), v = none ∧ Fr n0 L ∧ Keep h0 h [o0] ∧ h0.size ≤ b2 ∧ h0.size ≤ b15 ∧ h0.size ≤ b30 ∧ b2 ≠ b15 ∧ b2 ≠ b30 ∧ b15 ≠ b30 ∧ Exa Z h o0 "com/example/leeway/leeway/lp/SparseColumn" ∧ Fld Z h o0 "com/example/leeway/leeway/lp/SparseColumn" "values" "[D" (.ref b2) ∧ Fld Z h o0 "com/example/leeway/leeway/lp/SparseColumn" "listed" "[Z" (.ref b15) ∧ Fld Z h o0 "com/example/leeway/leeway/lp/SparseColumn" "rows" "[I" (.ref b30) ∧ Fld Z h o0 "com/example/leeway/leeway/lp/SparseColumn" "count" "I" (.int (0 : Int32)) ∧ Arv Z h b2 k2 .double (4 : Int32) [(.double (0 : UInt64)), (.double (0 : UInt64)), (.double (0 : UInt64)), (.double (0 : UInt64))] (.double (0 : UInt64)) ∧ Arv Z h b15 k15 .boolean (4 : Int32) [(.int (0 : Int32)), (.int (0 : Int32)), (.int (0 : Int32)), (.int (0 : Int32))] (.int (0 : Int32)) ∧ Arv Z h b30 k30 .int (4 : Int32) [(.int (0 : Int32)), (.int (0 : Int32)), (.int (0 : Int32)), (.int (0 : Int32))] (.int (0 : Int32)))
set_option maxRecDepth 65536 in
set_option maxHeartbeats 40000000 in
theorem sci (l : Launch) (Z : State) (a0 : Array Value) (hw : ∀ d ∈ tables_1, d.before a0 Z = true) (ws : List Jvm.Cond) (o0 : Addr) (h0 : Heap) (n0 : Nat) (Z0 : n0 ≤ h0.size) (g_o0 : n0 ≤ o0) (E_o0 : Exa Z h0 o0 "com/example/leeway/leeway/lp/SparseColumn") (F_values_o0 : Fld Z h0 o0 "com/example/leeway/leeway/lp/SparseColumn" "values" "[D" .null) (F_listed_o0 : Fld Z h0 o0 "com/example/leeway/leeway/lp/SparseColumn" "listed" "[Z" .null) (F_rows_o0 : Fld Z h0 o0 "com/example/leeway/leeway/lp/SparseColumn" "rows" "[I" .null) (F_count_o0 : Fld Z h0 o0 "com/example/leeway/leeway/lp/SparseColumn" "count" "I" (.int (0 : Int32))) :
    MetFree l (⟨"com/example/leeway/leeway/lp/SparseColumn", "<init>", "(I)V"⟩ : MethodName) (head1 (Jvm.Cond.code (⟨"com/example/leeway/leeway/lp/SparseColumn", "<init>", "(I)V"⟩ : MethodName) prog_87_method_1_code 2 none :: ws) ({ frames := 1, cells := 3, slots := 12, locals := 12 } : Room)) (fun a U => a = #[(.ref o0), (.int (4 : Int32))] ∧ Z.Warmed39 U.vm ∧ U.heap = h0) (fun _ _ _ _ _ => True) (fun _ U o U' => ∃ v L, o = .returned v ∧ Q_sci Z o0 h0 n0 v U'.heap L ∧ FrameEnd U o U' L ({ frames := 1, cells := 3, slots := 12, locals := 12 } : Room).cells ({ frames := 1, cells := 3, slots := 12, locals := 12 } : Room).slots) := by
  refine MetFree.of_bodySF (plainFor_of_name pn_com_example_leeway_leeway_lp_SparseColumn) hisR ?_
  intro p e s m args below meth c s₁ Bd hml0 hP hK
  obtain ⟨rfl, hZ, hh⟩ := hP
  have hx := Bd.exec
  have hby := Bd.bytes
  have hml : c.maxLocals = 2 := hml0
  have hown : s.vm.findClass "com/example/leeway/leeway/lp/SparseColumn" = some m.cls := findClass_of_methodNamed Bd.named
  have hnm := (name_of_methodNamed Bd.named Bd.method).1
  have X0 : Stand p l e ({ frames := 1, cells := 3, slots := 12, locals := 12 } : Room) s m #[(.ref o0), (.int (4 : Int32))] below meth c s₁ [] 0 0 := Stand.of_body Bd
  have e0 : s₁.heap = h0 := by rw [← hh, Bd.state]; rfl
  have N0 := Fr.nil n0
  have pre0 : ∀ t, Steps p.tables e below (s₁.setTop (mkF m 0 #[.val (.ref o0), .val (.int (4 : Int32))] [])) t → Steps p.tables e below (s₁.setTop (entryFrame m #[(.ref o0), (.int (4 : Int32))] 2)) t := fun t k => castTop (ef_1_Rl_4___Int32_ m o0) k
  obtain ⟨T1, X1, e1, st1⟩ := initO X0 hx hZ hown (hw _ (List.mem_of_getElem? (i := 9) rfl)) (hw _ (List.mem_of_getElem? (i := 10) rfl)) (hw _ (List.mem_of_getElem? (i := 11) rfl)) e0 (g := (mkF m 1 #[.val (.ref o0), .val (.int (4 : Int32))] [(.ref o0)])) rfl (by rw [hml]; rfl) rfl (hb hby d1_1) (by decide) (W := 0) (by show 2 * 0 + _ ≤ _; exact Nat.le_of_eq rfl) (by decide)
  obtain ⟨T2, h2, k2, X2, e2, E2, A2, st2⟩ := newP X1 hx hZ (hw _ (List.mem_of_getElem? (i := 1) rfl)) e1 (g := (mkF m 6 #[.val (.ref o0), .val (.int (4 : Int32))] [(.int (4 : Int32)), (.ref o0)])) rfl (hb hby d1_6) rfl (by decide) (cap := 4) (by decide) (by decide) (by decide) (by decide)
  obtain ⟨b2, g2⟩ : ∃ z, z = h0.size := ⟨_, rfl⟩
  rw [← g2] at A2 st2
  have ne_o0_b2 : o0 ≠ b2 := Nat.ne_of_lt (Nat.lt_of_lt_of_le E_o0.lt (Nat.le_of_eq g2.symm))
  have g_b2 : n0 ≤ b2 := Nat.le_trans Z0 (Nat.le_of_eq g2.symm)
  have sz_b2 : h0.size ≤ b2 := Nat.le_trans (Keep.refl h0 [o0]).1 (Nat.le_of_eq g2.symm)
  have f3 := E_o0.ext E2
  have f4 := F_values_o0.ext E2
  have f5 := F_listed_o0.ext E2
  have f6 := F_rows_o0.ext E2
  have f7 := F_count_o0.ext E2
  have K2 : Keep h0 h2 [o0] := (Keep.refl h0 [o0]).ext E2
  have Zs2 := Nat.le_trans Z0 E2.1
  have V2 : Arv Z h2 b2 k2 .double (4 : Int32) [(.double (0 : UInt64)), (.double (0 : UInt64)), (.double (0 : UInt64)), (.double (0 : UInt64))] (.double (0 : UInt64)) := (Arv.new A2 (by decide)).pad (pad_rep [] (.double (0 : UInt64)) 4)
  obtain ⟨T8, h8, X8, e8, W8, st8⟩ := putF X2 hx hZ hown (host := "") (Or.inl (hw _ (List.mem_of_getElem? (i := 12) rfl))) Via.refl e2 f4 f3 (Or.inr ⟨(hw _ (List.mem_of_getElem? (i := 13) rfl)), rfl, hnm⟩) (hw _ (List.mem_of_getElem? (i := 4) rfl)) (ty := (.array .double)) (by decide) rfl rfl (g := (mkF m 8 #[.val (.ref o0), .val (.int (4 : Int32))] [(.ref b2), (.ref o0)])) rfl rfl (hb hby d1_8)
  have f9 := f3.wr W8
  have f10 := f5.other W8 (Or.inr (so_SparseColumn_listed_values hw))
  have f11 := f6.other W8 (Or.inr (so_SparseColumn_rows_values hw))
  have f12 := f7.other W8 (Or.inr (so_SparseColumn_count_values hw))
  have f13 := V2.other W8 (Ne.symm ne_o0_b2)
  have K8 : Keep h0 h8 [o0] := K2.wr W8 (Or.inl (List.mem_of_getElem? (i := 0) rfl))
  have Zs8 := Nat.le_trans Zs2 (Keep.of_wr W8).1
  have N8 := Fr.snoc X8 N0 g_o0
  have f14 : Fld Z h8 o0 "com/example/leeway/leeway/lp/SparseColumn" "values" "[D" (.ref b2) := f4.same W8
  obtain ⟨T15, h15, k15, X15, e15, E15, A15, st15⟩ := newP X8 hx hZ (hw _ (List.mem_of_getElem? (i := 2) rfl)) e8 (g := (mkF m 13 #[.val (.ref o0), .val (.int (4 : Int32))] [(.int (4 : Int32)), (.ref o0)])) rfl (hb hby d1_13) rfl (by decide) (cap := 4) (by decide) (by decide) (by decide) (by decide)
  obtain ⟨b15, g15⟩ : ∃ z, z = h8.size := ⟨_, rfl⟩
  rw [← g15] at A15 st15
  have ne_o0_b15 : o0 ≠ b15 := Nat.ne_of_lt (Nat.lt_of_lt_of_le f9.lt (Nat.le_of_eq g15.symm))
  have ne_b2_b15 : b2 ≠ b15 := Nat.ne_of_lt (Nat.lt_of_lt_of_le f13.lt (Nat.le_of_eq g15.symm))
  have g_b15 : n0 ≤ b15 := Nat.le_trans Zs8 (Nat.le_of_eq g15.symm)
  have sz_b15 : h0.size ≤ b15 := Nat.le_trans K8.1 (Nat.le_of_eq g15.symm)
  have f16 := f9.ext E15
  have f17 := f14.ext E15
  have f18 := f10.ext E15
  have f19 := f11.ext E15
  have f20 := f12.ext E15
  have f21 := f13.ext E15
  have K15 : Keep h0 h15 [o0] := K8.ext E15
  have Zs15 := Nat.le_trans Zs8 E15.1
  have V15 : Arv Z h15 b15 k15 .boolean (4 : Int32) [(.int (0 : Int32)), (.int (0 : Int32)), (.int (0 : Int32)), (.int (0 : Int32))] (.int (0 : Int32)) := (Arv.new A15 (by decide)).pad (pad_rep [] (.int (0 : Int32)) 4)
  obtain ⟨T22, h22, X22, e22, W22, st22⟩ := putF X15 hx hZ hown (host := "") (Or.inl (hw _ (List.mem_of_getElem? (i := 14) rfl))) Via.refl e15 f18 f16 (Or.inr ⟨(hw _ (List.mem_of_getElem? (i := 15) rfl)), rfl, hnm⟩) (hw _ (List.mem_of_getElem? (i := 4) rfl)) (ty := (.array .boolean)) (by decide) rfl rfl (g := (mkF m 15 #[.val (.ref o0), .val (.int (4 : Int32))] [(.ref b15), (.ref o0)])) rfl rfl (hb hby d1_15)
  have f23 := f16.wr W22
  have f24 := f17.other W22 (Or.inr (so_SparseColumn_values_listed hw))
  have f25 := f19.other W22 (Or.inr (so_SparseColumn_rows_listed hw))
  have f26 := f20.other W22 (Or.inr (so_SparseColumn_count_listed hw))
  have f27 := f21.other W22 (Ne.symm ne_o0_b2)
  have f28 := V15.other W22 (Ne.symm ne_o0_b15)
  have K22 : Keep h0 h22 [o0] := K15.wr W22 (Or.inl (List.mem_of_getElem? (i := 0) rfl))
  have Zs22 := Nat.le_trans Zs15 (Keep.of_wr W22).1
  have N22 := Fr.snoc X22 N8 g_o0
  have f29 : Fld Z h22 o0 "com/example/leeway/leeway/lp/SparseColumn" "listed" "[Z" (.ref b15) := f18.same W22
  obtain ⟨T30, h30, k30, X30, e30, E30, A30, st30⟩ := newP X22 hx hZ (hw _ (List.mem_of_getElem? (i := 0) rfl)) e22 (g := (mkF m 20 #[.val (.ref o0), .val (.int (4 : Int32))] [(.int (4 : Int32)), (.ref o0)])) rfl (hb hby d1_20) rfl (by decide) (cap := 4) (by decide) (by decide) (by decide) (by decide)
  obtain ⟨b30, g30⟩ : ∃ z, z = h22.size := ⟨_, rfl⟩
  rw [← g30] at A30 st30
  have ne_o0_b30 : o0 ≠ b30 := Nat.ne_of_lt (Nat.lt_of_lt_of_le f23.lt (Nat.le_of_eq g30.symm))
  have ne_b2_b30 : b2 ≠ b30 := Nat.ne_of_lt (Nat.lt_of_lt_of_le f27.lt (Nat.le_of_eq g30.symm))
  have ne_b15_b30 : b15 ≠ b30 := Nat.ne_of_lt (Nat.lt_of_lt_of_le f28.lt (Nat.le_of_eq g30.symm))
  have g_b30 : n0 ≤ b30 := Nat.le_trans Zs22 (Nat.le_of_eq g30.symm)
  have sz_b30 : h0.size ≤ b30 := Nat.le_trans K22.1 (Nat.le_of_eq g30.symm)
  have f31 := f23.ext E30
  have f32 := f24.ext E30
  have f33 := f29.ext E30
  have f34 := f25.ext E30
  have f35 := f26.ext E30
  have f36 := f27.ext E30
  have f37 := f28.ext E30
  have K30 : Keep h0 h30 [o0] := K22.ext E30
  have Zs30 := Nat.le_trans Zs22 E30.1
  have V30 : Arv Z h30 b30 k30 .int (4 : Int32) [(.int (0 : Int32)), (.int (0 : Int32)), (.int (0 : Int32)), (.int (0 : Int32))] (.int (0 : Int32)) := (Arv.new A30 (by decide)).pad (pad_rep [] (.int (0 : Int32)) 4)
  obtain ⟨T38, h38, X38, e38, W38, st38⟩ := putF X30 hx hZ hown (host := "") (Or.inl (hw _ (List.mem_of_getElem? (i := 16) rfl))) Via.refl e30 f34 f31 (Or.inr ⟨(hw _ (List.mem_of_getElem? (i := 17) rfl)), rfl, hnm⟩) (hw _ (List.mem_of_getElem? (i := 4) rfl)) (ty := (.array .int)) (by decide) rfl rfl (g := (mkF m 22 #[.val (.ref o0), .val (.int (4 : Int32))] [(.ref b30), (.ref o0)])) rfl rfl (hb hby d1_22)
  have f39 := f31.wr W38
  have f40 := f32.other W38 (Or.inr (so_SparseColumn_values_rows hw))
  have f41 := f33.other W38 (Or.inr (so_SparseColumn_listed_rows hw))
  have f42 := f35.other W38 (Or.inr (so_SparseColumn_count_rows hw))
  have f43 := f36.other W38 (Ne.symm ne_o0_b2)
  have f44 := f37.other W38 (Ne.symm ne_o0_b15)
  have f45 := V30.other W38 (Ne.symm ne_o0_b30)
  have K38 : Keep h0 h38 [o0] := K30.wr W38 (Or.inl (List.mem_of_getElem? (i := 0) rfl))
  have Zs38 := Nat.le_trans Zs30 (Keep.of_wr W38).1
  have N38 := Fr.snoc X38 N22 g_o0
  have f46 : Fld Z h38 o0 "com/example/leeway/leeway/lp/SparseColumn" "rows" "[I" (.ref b30) := f34.same W38
  obtain ⟨fs, hr, hrun, hended, hW, hsame⟩ := X38.leave (v := none) (fun _ => rfl)
  refine ⟨_, _, pre0 _ ?_, hrun, hended, _, _, rfl, ?_, ⟨_, rfl⟩, hW, hsame.mono (by decide) (by decide)⟩
  · show Steps p.tables e below (s₁.setTop (mkF m 0 #[.val (.ref o0), .val (.int (4 : Int32))] [])) _
    refine XS.aloadN X0.here hx rfl (hb hby d1_0) rfl rfl ?_
    refine st1 _ ?_
    show Steps p.tables e below (T1.setTop (mkF m 4 #[.val (.ref o0), .val (.int (4 : Int32))] [])) _
    refine XS.aloadN X1.here hx rfl (hb hby d1_4) rfl rfl ?_
    refine XS.iloadN X1.here hx rfl (hb hby d1_5) rfl ?_
    refine st2 _ ?_
    show Steps p.tables e below (T2.setTop (mkF m 8 #[.val (.ref o0), .val (.int (4 : Int32))] [(.ref b2), (.ref o0)])) _
    refine st8 _ ?_
    show Steps p.tables e below (T8.setTop (mkF m 11 #[.val (.ref o0), .val (.int (4 : Int32))] [])) _
    refine XS.aloadN X8.here hx rfl (hb hby d1_11) rfl rfl ?_
    refine XS.iloadN X8.here hx rfl (hb hby d1_12) rfl ?_
    refine st15 _ ?_
    show Steps p.tables e below (T15.setTop (mkF m 15 #[.val (.ref o0), .val (.int (4 : Int32))] [(.ref b15), (.ref o0)])) _
    refine st22 _ ?_
    show Steps p.tables e below (T22.setTop (mkF m 18 #[.val (.ref o0), .val (.int (4 : Int32))] [])) _
    refine XS.aloadN X22.here hx rfl (hb hby d1_18) rfl rfl ?_
    show Steps p.tables e below (T22.setTop (mkF m 19 #[.val (.ref o0), .val (.int (4 : Int32))] [(.ref o0)])) _
    refine XS.iloadN X22.here hx rfl (hb hby d1_19) rfl ?_
    refine st30 _ ?_
    show Steps p.tables e below (T30.setTop (mkF m 22 #[.val (.ref o0), .val (.int (4 : Int32))] [(.ref b30), (.ref o0)])) _
    refine st38 _ ?_
    show Steps p.tables e below (T38.setTop (mkF m 25 #[.val (.ref o0), .val (.int (4 : Int32))] [])) _
    exact X38.returnOut hx Bd.returns (hb hby d1_25) hr
  · show Q_sci Z o0 h0 n0 _ T38.heap _
    rw [e38]
    exact ⟨b2, b15, b30, k2, k15, k30, rfl, N38, K38, sz_b2, sz_b15, sz_b30, ne_b2_b15, ne_b2_b30, ne_b15_b30, f39, f40, f41, f46, f42, f43, f44, f45⟩
theorem pd_0 : parseMethodDescriptor "(I)V" = some ⟨[.int], none⟩ := by decide +kernel
def Q_cnd1N (Z : State) (o0 : Addr) (v0 : Addr) (l0 : Addr) (w0 : Addr) (kv : ClassId) (kl : ClassId) (kw : ClassId) (A : Jvm.OwnSC.OwnSt) (B : Jvm.OwnSC.OwnSt) (fl : Int32) (ii : Int32) (ww : UInt64) (sl0 : Slot) (sl1 : Slot) (sl2 : Slot) (sl3 : Slot) (sl4 : Slot) (sl5 : Slot) (sl6 : Slot) (sl7 : Slot) (sl8 : Slot) (sl9 : Slot) (sl10 : Slot) (sl11 : Slot) (sl12 : Slot) (sl13 : Slot) (sl14 : Slot) (sl15 : Slot) (sl16 : Slot) (sl17 : Slot) (sl22 : Slot) (sl23 : Slot) (sl24 : Slot) (sl25 : Slot) (sl26 : Slot) (sl27 : Slot) (sl28 : Slot) (sl29 : Slot) (sl30 : Slot) (sl31 : Slot) (sl32 : Slot) (sl33 : Slot) (sl34 : Slot) (sl36 : Slot) (sl37 : Slot) (sl38 : Slot) (sl39 : Slot) (sl40 : Slot) (sl41 : Slot) (sl42 : Slot) (sl43 : Slot) (h0 : Heap) (h : Heap) : Prop := Keep h0 h [o0, v0, l0, w0] ∧ Exa Z h o0 "com/example/leeway/leeway/lp/SparseColumn" ∧ Fld Z h o0 "com/example/leeway/leeway/lp/SparseColumn" "values" "[D" (.ref v0) ∧ Fld Z h o0 "com/example/leeway/leeway/lp/SparseColumn" "listed" "[Z" (.ref l0) ∧ Fld Z h o0 "com/example/leeway/leeway/lp/SparseColumn" "rows" "[I" (.ref w0) ∧ Fld Z h o0 "com/example/leeway/leeway/lp/SparseColumn" "count" "I" (.int A.1) ∧ Arv Z h v0 kv .double (4 : Int32) A.2.2.2 (.double (0 : UInt64)) ∧ Arv Z h l0 kl .boolean (4 : Int32) A.2.2.1 (.int (0 : Int32)) ∧ Arv Z h w0 kw .int (4 : Int32) A.2.1 (.int (0 : Int32))
set_option maxRecDepth 65536 in
set_option maxHeartbeats 40000000 in
theorem cnd1N (l : Launch) (Z : State) (a0 : Array Value) (hw : ∀ d ∈ tables_1, d.before a0 Z = true) (o0 : Addr) (v0 : Addr) (l0 : Addr) (w0 : Addr) (kv : ClassId) (kl : ClassId) (kw : ClassId) (A : Jvm.OwnSC.OwnSt) (B : Jvm.OwnSC.OwnSt) (fl : Int32) (ii : Int32) (ww : UInt64) (sl0 : Slot) (sl1 : Slot) (sl2 : Slot) (sl3 : Slot) (sl4 : Slot) (sl5 : Slot) (sl6 : Slot) (sl7 : Slot) (sl8 : Slot) (sl9 : Slot) (sl10 : Slot) (sl11 : Slot) (sl12 : Slot) (sl13 : Slot) (sl14 : Slot) (sl15 : Slot) (sl16 : Slot) (sl17 : Slot) (sl22 : Slot) (sl23 : Slot) (sl24 : Slot) (sl25 : Slot) (sl26 : Slot) (sl27 : Slot) (sl28 : Slot) (sl29 : Slot) (sl30 : Slot) (sl31 : Slot) (sl32 : Slot) (sl33 : Slot) (sl34 : Slot) (sl36 : Slot) (sl37 : Slot) (sl38 : Slot) (sl39 : Slot) (sl40 : Slot) (sl41 : Slot) (sl42 : Slot) (sl43 : Slot) (h0 : Heap) (n0 : Nat) (Z0 : n0 ≤ h0.size) (F_values_o0 : Fld Z h0 o0 "com/example/leeway/leeway/lp/SparseColumn" "values" "[D" (.ref v0)) (F_listed_o0 : Fld Z h0 o0 "com/example/leeway/leeway/lp/SparseColumn" "listed" "[Z" (.ref l0)) (F_rows_o0 : Fld Z h0 o0 "com/example/leeway/leeway/lp/SparseColumn" "rows" "[I" (.ref w0)) (F_count_o0 : Fld Z h0 o0 "com/example/leeway/leeway/lp/SparseColumn" "count" "I" (.int A.1)) (E_o0 : Exa Z h0 o0 "com/example/leeway/leeway/lp/SparseColumn") (V_v0 : Arv Z h0 v0 kv .double (4 : Int32) A.2.2.2 (.double (0 : UInt64))) (V_l0 : Arv Z h0 l0 kl .boolean (4 : Int32) A.2.2.1 (.int (0 : Int32))) (V_w0 : Arv Z h0 w0 kw .int (4 : Int32) A.2.1 (.int (0 : Int32))) (g_o0 : n0 ≤ o0) (g_v0 : n0 ≤ v0) (g_l0 : n0 ≤ l0) (g_w0 : n0 ≤ w0) (ne_o0_v0 : o0 ≠ v0) (ne_o0_l0 : o0 ≠ l0) (ne_o0_w0 : o0 ≠ w0) (ne_v0_l0 : v0 ≠ l0) (ne_v0_w0 : v0 ≠ w0) (ne_l0_w0 : l0 ≠ w0) (hc293 : fl = (0 : Int32))
    {p : Program} {e : Env} {s : State} {m : MethodId} {args : Array Value} {below : List Frame} {meth : Method} {c : Code} {T0 : State} {locs0 : List Loc}
    (hx : p.tables.exec = Jvm.exec) (hby : c.code = code) (hml : c.maxLocals = 44) (hown : s.vm.findClass "com/example/leeway/leeway/lp/SparseColumnSubtractPinLaw" = some m.cls) (hZ : Z.Warmed39 s.vm) (X0 : Stand p l e room_1 s m args below meth c T0 locs0 10 31) (e0 : T0.heap = h0) (N0 : Fr n0 locs0) :
    ∃ T' L, Stand p l e room_1 s m args below meth c T' L 10 31 ∧ Fr n0 L ∧ Q_cnd1N Z o0 v0 l0 w0 kv kl kw A B fl ii ww sl0 sl1 sl2 sl3 sl4 sl5 sl6 sl7 sl8 sl9 sl10 sl11 sl12 sl13 sl14 sl15 sl16 sl17 sl22 sl23 sl24 sl25 sl26 sl27 sl28 sl29 sl30 sl31 sl32 sl33 sl34 sl36 sl37 sl38 sl39 sl40 sl41 sl42 sl43 h0 T'.heap ∧ ∀ target, Steps p.tables e below (T'.setTop (mkF m 305 #[sl0, sl1, sl2, sl3, sl4, sl5, sl6, sl7, sl8, sl9, sl10, sl11, sl12, sl13, sl14, sl15, sl16, sl17, .val (.int fl), .val (.int ii), .val (.double ww), .second, sl22, sl23, sl24, sl25, sl26, sl27, sl28, sl29, sl30, sl31, sl32, sl33, sl34, .val (.ref o0), sl36, sl37, sl38, sl39, sl40, sl41, sl42, sl43] [])) target → Steps p.tables e below (T0.setTop (mkF m 291 #[sl0, sl1, sl2, sl3, sl4, sl5, sl6, sl7, sl8, sl9, sl10, sl11, sl12, sl13, sl14, sl15, sl16, sl17, .val (.int fl), .val (.int ii), .val (.double ww), .second, sl22, sl23, sl24, sl25, sl26, sl27, sl28, sl29, sl30, sl31, sl32, sl33, sl34, .val (.ref o0), sl36, sl37, sl38, sl39, sl40, sl41, sl42, sl43] [])) target := by
  refine ⟨T0, _, X0, N0, ?_, fun target kt => ?_⟩
  · show Q_cnd1N Z o0 v0 l0 w0 kv kl kw A B fl ii ww sl0 sl1 sl2 sl3 sl4 sl5 sl6 sl7 sl8 sl9 sl10 sl11 sl12 sl13 sl14 sl15 sl16 sl17 sl22 sl23 sl24 sl25 sl26 sl27 sl28 sl29 sl30 sl31 sl32 sl33 sl34 sl36 sl37 sl38 sl39 sl40 sl41 sl42 sl43 h0 T0.heap
    rw [e0]
    exact ⟨(Keep.refl h0 [o0, v0, l0, w0]), E_o0, F_values_o0, F_listed_o0, F_rows_o0, F_count_o0, V_v0, V_l0, V_w0⟩
  · show Steps p.tables e below (T0.setTop (mkF m 291 #[sl0, sl1, sl2, sl3, sl4, sl5, sl6, sl7, sl8, sl9, sl10, sl11, sl12, sl13, sl14, sl15, sl16, sl17, .val (.int fl), .val (.int ii), .val (.double ww), .second, sl22, sl23, sl24, sl25, sl26, sl27, sl28, sl29, sl30, sl31, sl32, sl33, sl34, .val (.ref o0), sl36, sl37, sl38, sl39, sl40, sl41, sl42, sl43] [])) _
    refine XS.iload X0.here hx rfl (hb hby at_291) rfl ?_
    refine XS.ifYes X0.here hx rfl (pc0 := 293) (pc' := 305) rfl (hb hby at_293) rfl ((if0 _ _).trans (teq hc293).1) (by decide) (by decide) ?_
    exact kt
theorem pd_1 : parseMethodDescriptor "(ID)V" = some ⟨[.int, .double], none⟩ := by decide +kernel
def Q_cnd1Y (Z : State) (o0 : Addr) (v0 : Addr) (l0 : Addr) (w0 : Addr) (kv : ClassId) (kl : ClassId) (kw : ClassId) (A : Jvm.OwnSC.OwnSt) (B : Jvm.OwnSC.OwnSt) (fl : Int32) (ii : Int32) (ww : UInt64) (sl0 : Slot) (sl1 : Slot) (sl2 : Slot) (sl3 : Slot) (sl4 : Slot) (sl5 : Slot) (sl6 : Slot) (sl7 : Slot) (sl8 : Slot) (sl9 : Slot) (sl10 : Slot) (sl11 : Slot) (sl12 : Slot) (sl13 : Slot) (sl14 : Slot) (sl15 : Slot) (sl16 : Slot) (sl17 : Slot) (sl22 : Slot) (sl23 : Slot) (sl24 : Slot) (sl25 : Slot) (sl26 : Slot) (sl27 : Slot) (sl28 : Slot) (sl29 : Slot) (sl30 : Slot) (sl31 : Slot) (sl32 : Slot) (sl33 : Slot) (sl34 : Slot) (sl36 : Slot) (sl37 : Slot) (sl38 : Slot) (sl39 : Slot) (sl40 : Slot) (sl41 : Slot) (sl42 : Slot) (sl43 : Slot) (h0 : Heap) (h : Heap) : Prop := Keep h0 h [o0, v0, l0, w0] ∧ Exa Z h o0 "com/example/leeway/leeway/lp/SparseColumn" ∧ Fld Z h o0 "com/example/leeway/leeway/lp/SparseColumn" "values" "[D" (.ref v0) ∧ Fld Z h o0 "com/example/leeway/leeway/lp/SparseColumn" "listed" "[Z" (.ref l0) ∧ Fld Z h o0 "com/example/leeway/leeway/lp/SparseColumn" "rows" "[I" (.ref w0) ∧ Fld Z h o0 "com/example/leeway/leeway/lp/SparseColumn" "count" "I" (.int B.1) ∧ Arv Z h v0 kv .double (4 : Int32) B.2.2.2 (.double (0 : UInt64)) ∧ Arv Z h l0 kl .boolean (4 : Int32) B.2.2.1 (.int (0 : Int32)) ∧ Arv Z h w0 kw .int (4 : Int32) B.2.1 (.int (0 : Int32))
set_option maxRecDepth 65536 in
set_option maxHeartbeats 40000000 in
theorem cnd1Y (l : Launch) (Z : State) (a0 : Array Value) (hw : ∀ d ∈ tables_1, d.before a0 Z = true) (o0 : Addr) (v0 : Addr) (l0 : Addr) (w0 : Addr) (kv : ClassId) (kl : ClassId) (kw : ClassId) (A : Jvm.OwnSC.OwnSt) (B : Jvm.OwnSC.OwnSt) (fl : Int32) (ii : Int32) (ww : UInt64) (sl0 : Slot) (sl1 : Slot) (sl2 : Slot) (sl3 : Slot) (sl4 : Slot) (sl5 : Slot) (sl6 : Slot) (sl7 : Slot) (sl8 : Slot) (sl9 : Slot) (sl10 : Slot) (sl11 : Slot) (sl12 : Slot) (sl13 : Slot) (sl14 : Slot) (sl15 : Slot) (sl16 : Slot) (sl17 : Slot) (sl22 : Slot) (sl23 : Slot) (sl24 : Slot) (sl25 : Slot) (sl26 : Slot) (sl27 : Slot) (sl28 : Slot) (sl29 : Slot) (sl30 : Slot) (sl31 : Slot) (sl32 : Slot) (sl33 : Slot) (sl34 : Slot) (sl36 : Slot) (sl37 : Slot) (sl38 : Slot) (sl39 : Slot) (sl40 : Slot) (sl41 : Slot) (sl42 : Slot) (sl43 : Slot) (h0 : Heap) (n0 : Nat) (Z0 : n0 ≤ h0.size) (F_values_o0 : Fld Z h0 o0 "com/example/leeway/leeway/lp/SparseColumn" "values" "[D" (.ref v0)) (F_listed_o0 : Fld Z h0 o0 "com/example/leeway/leeway/lp/SparseColumn" "listed" "[Z" (.ref l0)) (F_rows_o0 : Fld Z h0 o0 "com/example/leeway/leeway/lp/SparseColumn" "rows" "[I" (.ref w0)) (F_count_o0 : Fld Z h0 o0 "com/example/leeway/leeway/lp/SparseColumn" "count" "I" (.int A.1)) (E_o0 : Exa Z h0 o0 "com/example/leeway/leeway/lp/SparseColumn") (V_v0 : Arv Z h0 v0 kv .double (4 : Int32) A.2.2.2 (.double (0 : UInt64))) (V_l0 : Arv Z h0 l0 kl .boolean (4 : Int32) A.2.2.1 (.int (0 : Int32))) (V_w0 : Arv Z h0 w0 kw .int (4 : Int32) A.2.1 (.int (0 : Int32))) (g_o0 : n0 ≤ o0) (g_v0 : n0 ≤ v0) (g_l0 : n0 ≤ l0) (g_w0 : n0 ≤ w0) (ne_o0_v0 : o0 ≠ v0) (ne_o0_l0 : o0 ≠ l0) (ne_o0_w0 : o0 ≠ w0) (ne_v0_l0 : v0 ≠ l0) (ne_v0_w0 : v0 ≠ w0) (ne_l0_w0 : l0 ≠ w0) (hc293 : ¬ (fl = (0 : Int32))) (hadd_302 : Jvm.OwnSC.AddR A B ii ww)
    {p : Program} {e : Env} {s : State} {m : MethodId} {args : Array Value} {below : List Frame} {meth : Method} {c : Code} {T0 : State} {locs0 : List Loc}
    (hx : p.tables.exec = Jvm.exec) (hby : c.code = code) (hml : c.maxLocals = 44) (hown : s.vm.findClass "com/example/leeway/leeway/lp/SparseColumnSubtractPinLaw" = some m.cls) (hZ : Z.Warmed39 s.vm) (X0 : Stand p l e room_1 s m args below meth c T0 locs0 10 31) (e0 : T0.heap = h0) (N0 : Fr n0 locs0) :
    ∃ T' L, Stand p l e room_1 s m args below meth c T' L 10 31 ∧ Fr n0 L ∧ Q_cnd1Y Z o0 v0 l0 w0 kv kl kw A B fl ii ww sl0 sl1 sl2 sl3 sl4 sl5 sl6 sl7 sl8 sl9 sl10 sl11 sl12 sl13 sl14 sl15 sl16 sl17 sl22 sl23 sl24 sl25 sl26 sl27 sl28 sl29 sl30 sl31 sl32 sl33 sl34 sl36 sl37 sl38 sl39 sl40 sl41 sl42 sl43 h0 T'.heap ∧ ∀ target, Steps p.tables e below (T'.setTop (mkF m 305 #[sl0, sl1, sl2, sl3, sl4, sl5, sl6, sl7, sl8, sl9, sl10, sl11, sl12, sl13, sl14, sl15, sl16, sl17, .val (.int fl), .val (.int ii), .val (.double ww), .second, sl22, sl23, sl24, sl25, sl26, sl27, sl28, sl29, sl30, sl31, sl32, sl33, sl34, .val (.ref o0), sl36, sl37, sl38, sl39, sl40, sl41, sl42, sl43] [])) target → Steps p.tables e below (T0.setTop (mkF m 291 #[sl0, sl1, sl2, sl3, sl4, sl5, sl6, sl7, sl8, sl9, sl10, sl11, sl12, sl13, sl14, sl15, sl16, sl17, .val (.int fl), .val (.int ii), .val (.double ww), .second, sl22, sl23, sl24, sl25, sl26, sl27, sl28, sl29, sl30, sl31, sl32, sl33, sl34, .val (.ref o0), sl36, sl37, sl38, sl39, sl40, sl41, sl42, sl43] [])) target := by
  obtain ⟨cq1, kq1, q1a, q1b, q1c⟩ := isOf hZ e0 E_o0
  obtain ⟨_, _, ⟨T1, L1, k1, n1⟩, -, X1, ⟨Lc1, hQ1, lq1, yq1, zq1⟩, st1⟩ := X0.virtualBack hx (y := (⟨"com/example/leeway/leeway/lp/SparseColumn", "add", "(ID)V"⟩ : MethodName)) (z := (⟨"com/example/leeway/leeway/lp/SparseColumn", "add", "(ID)V"⟩ : MethodName)) hown (mvT hZ (hw _ (List.mem_of_getElem? (i := 50) rfl))) (mvT hZ (hw _ (List.mem_of_getElem? (i := 51) rfl))) (notFace_of_selects (args := #[]) (mvT hZ (hw _ (List.mem_of_getElem? (i := 53) rfl)))) (mvT hZ (hw _ (List.mem_of_getElem? (i := 53) rfl))) (mvT hZ (hw _ (List.mem_of_getElem? (i := 52) rfl))) (by decide) (backOf (W := 0) (addM l Z a0 hw [] o0 v0 l0 w0 kv kl kw A B ii ww h0 n0 Z0 F_values_o0 F_listed_o0 F_rows_o0 F_count_o0 E_o0 V_v0 V_l0 V_w0 g_o0 g_v0 g_l0 g_w0 ne_o0_v0 ne_o0_l0 ne_o0_w0 ne_v0_l0 ne_v0_w0 ne_l0_w0 hadd_302) hZ (hw _ (List.mem_of_getElem? (i := 54) rfl)) (hw _ (List.mem_of_getElem? (i := 5) rfl)) (by decide) (by decide)) q1a q1c (g := (mkF m 302 #[sl0, sl1, sl2, sl3, sl4, sl5, sl6, sl7, sl8, sl9, sl10, sl11, sl12, sl13, sl14, sl15, sl16, sl17, .val (.int fl), .val (.int ii), .val (.double ww), .second, sl22, sl23, sl24, sl25, sl26, sl27, sl28, sl29, sl30, sl31, sl32, sl33, sl34, .val (.ref o0), sl36, sl37, sl38, sl39, sl40, sl41, sl42, sl43] [(.double ww), (.int ii), (.ref o0)])) rfl (by rw [hml]; rfl) (Steps.refl _) (argsL := [(.int ii), (.double ww)]) (rest := []) (lenOf pd_1 rfl) rfl (by show 2 * 0 + _ ≤ _; exact Nat.le_of_eq rfl) (hb hby at_302) (fun _ _ => ⟨rfl, e0, (by decide : 10 + 0 ≤ _), (by decide : 31 + 0 ≤ _)⟩)
  dsimp only [Pt.U, Pt.locs, Pt.cells, Pt.slots] at X1 lq1 yq1 zq1 st1 hQ1
  rw [lq1, yq1, zq1] at X1
  obtain ⟨rfl, N1q, K1q, f2, f3, f4, f5, f6, f7, f8, f9⟩ := hQ1
  have N1 := Fr.app N0 N1q
  have f10 := E_o0.keep K1q
  have K1 : Keep h0 T1.heap [o0, v0, l0, w0] := (Keep.refl h0 [o0, v0, l0, w0]).trans K1q (own_allS (Or.inl (List.mem_of_getElem? (i := 0) rfl)) (own_allS (Or.inl (List.mem_of_getElem? (i := 1) rfl)) (own_allS (Or.inl (List.mem_of_getElem? (i := 2) rfl)) (own_allS (Or.inl (List.mem_of_getElem? (i := 3) rfl)) own_all0))))
  have Zs1 := Nat.le_trans Z0 K1q.1
  refine ⟨T1, _, X1, N1, ?_, fun target kt => ?_⟩
  · show Q_cnd1Y Z o0 v0 l0 w0 kv kl kw A B fl ii ww sl0 sl1 sl2 sl3 sl4 sl5 sl6 sl7 sl8 sl9 sl10 sl11 sl12 sl13 sl14 sl15 sl16 sl17 sl22 sl23 sl24 sl25 sl26 sl27 sl28 sl29 sl30 sl31 sl32 sl33 sl34 sl36 sl37 sl38 sl39 sl40 sl41 sl42 sl43 h0 T1.heap
    exact ⟨K1, f2, f3, f4, f5, f6, f7, f8, f9⟩
  · show Steps p.tables e below (T0.setTop (mkF m 291 #[sl0, sl1, sl2, sl3, sl4, sl5, sl6, sl7, sl8, sl9, sl10, sl11, sl12, sl13, sl14, sl15, sl16, sl17, .val (.int fl), .val (.int ii), .val (.double ww), .second, sl22, sl23, sl24, sl25, sl26, sl27, sl28, sl29, sl30, sl31, sl32, sl33, sl34, .val (.ref o0), sl36, sl37, sl38, sl39, sl40, sl41, sl42, sl43] [])) _
    refine XS.iload X0.here hx rfl (hb hby at_291) rfl ?_
    refine XS.ifNo X0.here hx rfl (hb hby at_293) rfl ((if0 _ _).trans (feq hc293).1) ?_
    refine XS.aload X0.here hx rfl (hb hby at_296) rfl rfl ?_
    refine XS.iload X0.here hx rfl (hb hby at_298) rfl ?_
    refine XS.dload X0.here hx rfl (hb hby at_300) rfl ?_
    show Steps p.tables e below (T0.setTop (mkF m 302 #[sl0, sl1, sl2, sl3, sl4, sl5, sl6, sl7, sl8, sl9, sl10, sl11, sl12, sl13, sl14, sl15, sl16, sl17, .val (.int fl), .val (.int ii), .val (.double ww), .second, sl22, sl23, sl24, sl25, sl26, sl27, sl28, sl29, sl30, sl31, sl32, sl33, sl34, .val (.ref o0), sl36, sl37, sl38, sl39, sl40, sl41, sl42, sl43] [(.double ww), (.int ii), (.ref o0)])) _
    refine st1.trans ?_
    exact kt
def Q_cnd1 (Z : State) (o0 : Addr) (v0 : Addr) (l0 : Addr) (w0 : Addr) (kv : ClassId) (kl : ClassId) (kw : ClassId) (A : Jvm.OwnSC.OwnSt) (B : Jvm.OwnSC.OwnSt) (fl : Int32) (ii : Int32) (ww : UInt64) (sl0 : Slot) (sl1 : Slot) (sl2 : Slot) (sl3 : Slot) (sl4 : Slot) (sl5 : Slot) (sl6 : Slot) (sl7 : Slot) (sl8 : Slot) (sl9 : Slot) (sl10 : Slot) (sl11 : Slot) (sl12 : Slot) (sl13 : Slot) (sl14 : Slot) (sl15 : Slot) (sl16 : Slot) (sl17 : Slot) (sl22 : Slot) (sl23 : Slot) (sl24 : Slot) (sl25 : Slot) (sl26 : Slot) (sl27 : Slot) (sl28 : Slot) (sl29 : Slot) (sl30 : Slot) (sl31 : Slot) (sl32 : Slot) (sl33 : Slot) (sl34 : Slot) (sl36 : Slot) (sl37 : Slot) (sl38 : Slot) (sl39 : Slot) (sl40 : Slot) (sl41 : Slot) (sl42 : Slot) (sl43 : Slot) (h0 : Heap) (h : Heap) : Prop := Keep h0 h [o0, v0, l0, w0] ∧ Exa Z h o0 "com/example/leeway/leeway/lp/SparseColumn" ∧ Fld Z h o0 "com/example/leeway/leeway/lp/SparseColumn" "values" "[D" (.ref v0) ∧ Fld Z h o0 "com/example/leeway/leeway/lp/SparseColumn" "listed" "[Z" (.ref l0) ∧ Fld Z h o0 "com/example/leeway/leeway/lp/SparseColumn" "rows" "[I" (.ref w0) ∧ Fld Z h o0 "com/example/leeway/leeway/lp/SparseColumn" "count" "I" (.int B.1) ∧ Arv Z h v0 kv .double (4 : Int32) B.2.2.2 (.double (0 : UInt64)) ∧ Arv Z h l0 kl .boolean (4 : Int32) B.2.2.1 (.int (0 : Int32)) ∧ Arv Z h w0 kw .int (4 : Int32) B.2.1 (.int (0 : Int32))
set_option maxRecDepth 65536 in
set_option maxHeartbeats 40000000 in
theorem cnd1 (l : Launch) (Z : State) (a0 : Array Value) (hw : ∀ d ∈ tables_1, d.before a0 Z = true) (o0 : Addr) (v0 : Addr) (l0 : Addr) (w0 : Addr) (kv : ClassId) (kl : ClassId) (kw : ClassId) (A : Jvm.OwnSC.OwnSt) (B : Jvm.OwnSC.OwnSt) (fl : Int32) (ii : Int32) (ww : UInt64) (sl0 : Slot) (sl1 : Slot) (sl2 : Slot) (sl3 : Slot) (sl4 : Slot) (sl5 : Slot) (sl6 : Slot) (sl7 : Slot) (sl8 : Slot) (sl9 : Slot) (sl10 : Slot) (sl11 : Slot) (sl12 : Slot) (sl13 : Slot) (sl14 : Slot) (sl15 : Slot) (sl16 : Slot) (sl17 : Slot) (sl22 : Slot) (sl23 : Slot) (sl24 : Slot) (sl25 : Slot) (sl26 : Slot) (sl27 : Slot) (sl28 : Slot) (sl29 : Slot) (sl30 : Slot) (sl31 : Slot) (sl32 : Slot) (sl33 : Slot) (sl34 : Slot) (sl36 : Slot) (sl37 : Slot) (sl38 : Slot) (sl39 : Slot) (sl40 : Slot) (sl41 : Slot) (sl42 : Slot) (sl43 : Slot) (h0 : Heap) (n0 : Nat) (Z0 : n0 ≤ h0.size) (F_values_o0 : Fld Z h0 o0 "com/example/leeway/leeway/lp/SparseColumn" "values" "[D" (.ref v0)) (F_listed_o0 : Fld Z h0 o0 "com/example/leeway/leeway/lp/SparseColumn" "listed" "[Z" (.ref l0)) (F_rows_o0 : Fld Z h0 o0 "com/example/leeway/leeway/lp/SparseColumn" "rows" "[I" (.ref w0)) (F_count_o0 : Fld Z h0 o0 "com/example/leeway/leeway/lp/SparseColumn" "count" "I" (.int A.1)) (E_o0 : Exa Z h0 o0 "com/example/leeway/leeway/lp/SparseColumn") (V_v0 : Arv Z h0 v0 kv .double (4 : Int32) A.2.2.2 (.double (0 : UInt64))) (V_l0 : Arv Z h0 l0 kl .boolean (4 : Int32) A.2.2.1 (.int (0 : Int32))) (V_w0 : Arv Z h0 w0 kw .int (4 : Int32) A.2.1 (.int (0 : Int32))) (g_o0 : n0 ≤ o0) (g_v0 : n0 ≤ v0) (g_l0 : n0 ≤ l0) (g_w0 : n0 ≤ w0) (ne_o0_v0 : o0 ≠ v0) (ne_o0_l0 : o0 ≠ l0) (ne_o0_w0 : o0 ≠ w0) (ne_v0_l0 : v0 ≠ l0) (ne_v0_w0 : v0 ≠ w0) (ne_l0_w0 : l0 ≠ w0) (hcnd : Jvm.OwnSC.CondR A B fl ii ww)
    {p : Program} {e : Env} {s : State} {m : MethodId} {args : Array Value} {below : List Frame} {meth : Method} {c : Code} {T0 : State} {locs0 : List Loc}
    (hx : p.tables.exec = Jvm.exec) (hby : c.code = code) (hml : c.maxLocals = 44) (hown : s.vm.findClass "com/example/leeway/leeway/lp/SparseColumnSubtractPinLaw" = some m.cls) (hZ : Z.Warmed39 s.vm) (X0 : Stand p l e room_1 s m args below meth c T0 locs0 10 31) (e0 : T0.heap = h0) (N0 : Fr n0 locs0) :
    ∃ T' L, Stand p l e room_1 s m args below meth c T' L 10 31 ∧ Fr n0 L ∧ Q_cnd1 Z o0 v0 l0 w0 kv kl kw A B fl ii ww sl0 sl1 sl2 sl3 sl4 sl5 sl6 sl7 sl8 sl9 sl10 sl11 sl12 sl13 sl14 sl15 sl16 sl17 sl22 sl23 sl24 sl25 sl26 sl27 sl28 sl29 sl30 sl31 sl32 sl33 sl34 sl36 sl37 sl38 sl39 sl40 sl41 sl42 sl43 h0 T'.heap ∧ ∀ target, Steps p.tables e below (T'.setTop (mkF m 305 #[sl0, sl1, sl2, sl3, sl4, sl5, sl6, sl7, sl8, sl9, sl10, sl11, sl12, sl13, sl14, sl15, sl16, sl17, .val (.int fl), .val (.int ii), .val (.double ww), .second, sl22, sl23, sl24, sl25, sl26, sl27, sl28, sl29, sl30, sl31, sl32, sl33, sl34, .val (.ref o0), sl36, sl37, sl38, sl39, sl40, sl41, sl42, sl43] [])) target → Steps p.tables e below (T0.setTop (mkF m 291 #[sl0, sl1, sl2, sl3, sl4, sl5, sl6, sl7, sl8, sl9, sl10, sl11, sl12, sl13, sl14, sl15, sl16, sl17, .val (.int fl), .val (.int ii), .val (.double ww), .second, sl22, sl23, sl24, sl25, sl26, sl27, sl28, sl29, sl30, sl31, sl32, sl33, sl34, .val (.ref o0), sl36, sl37, sl38, sl39, sl40, sl41, sl42, sl43] [])) target := by
  rcases hcnd with ⟨h1, hAB⟩ | ⟨h1, h2⟩
  · subst hAB
    exact cnd1N l Z a0 hw o0 v0 l0 w0 kv kl kw A A fl ii ww sl0 sl1 sl2 sl3 sl4 sl5 sl6 sl7 sl8 sl9 sl10 sl11 sl12 sl13 sl14 sl15 sl16 sl17 sl22 sl23 sl24 sl25 sl26 sl27 sl28 sl29 sl30 sl31 sl32 sl33 sl34 sl36 sl37 sl38 sl39 sl40 sl41 sl42 sl43 h0 n0 Z0 (F_values_o0 := F_values_o0) (F_listed_o0 := F_listed_o0) (F_rows_o0 := F_rows_o0) (F_count_o0 := F_count_o0) (E_o0 := E_o0) (V_v0 := V_v0) (V_l0 := V_l0) (V_w0 := V_w0) (g_o0 := g_o0) (g_v0 := g_v0) (g_l0 := g_l0) (g_w0 := g_w0) (ne_o0_v0 := ne_o0_v0) (ne_o0_l0 := ne_o0_l0) (ne_o0_w0 := ne_o0_w0) (ne_v0_l0 := ne_v0_l0) (ne_v0_w0 := ne_v0_w0) (ne_l0_w0 := ne_l0_w0) (hc293 := h1) (hx := hx) (hby := hby) (hml := hml) (hown := hown) (hZ := hZ) (X0 := X0) (e0 := e0) (N0 := N0)
  · exact cnd1Y l Z a0 hw o0 v0 l0 w0 kv kl kw A B fl ii ww sl0 sl1 sl2 sl3 sl4 sl5 sl6 sl7 sl8 sl9 sl10 sl11 sl12 sl13 sl14 sl15 sl16 sl17 sl22 sl23 sl24 sl25 sl26 sl27 sl28 sl29 sl30 sl31 sl32 sl33 sl34 sl36 sl37 sl38 sl39 sl40 sl41 sl42 sl43 h0 n0 Z0 (F_values_o0 := F_values_o0) (F_listed_o0 := F_listed_o0) (F_rows_o0 := F_rows_o0) (F_count_o0 := F_count_o0) (E_o0 := E_o0) (V_v0 := V_v0) (V_l0 := V_l0) (V_w0 := V_w0) (g_o0 := g_o0) (g_v0 := g_v0) (g_l0 := g_l0) (g_w0 := g_w0) (ne_o0_v0 := ne_o0_v0) (ne_o0_l0 := ne_o0_l0) (ne_o0_w0 := ne_o0_w0) (ne_v0_l0 := ne_v0_l0) (ne_v0_w0 := ne_v0_w0) (ne_l0_w0 := ne_l0_w0) (hc293 := h1) (hadd_302 := h2) (hx := hx) (hby := hby) (hml := hml) (hown := hown) (hZ := hZ) (X0 := X0) (e0 := e0) (N0 := N0)
def Q_cnd2N (Z : State) (o0 : Addr) (v0 : Addr) (l0 : Addr) (w0 : Addr) (kv : ClassId) (kl : ClassId) (kw : ClassId) (A : Jvm.OwnSC.OwnSt) (B : Jvm.OwnSC.OwnSt) (fl : Int32) (ii : Int32) (ww : UInt64) (sl0 : Slot) (sl1 : Slot) (sl2 : Slot) (sl3 : Slot) (sl4 : Slot) (sl5 : Slot) (sl6 : Slot) (sl7 : Slot) (sl8 : Slot) (sl9 : Slot) (sl10 : Slot) (sl11 : Slot) (sl12 : Slot) (sl13 : Slot) (sl14 : Slot) (sl15 : Slot) (sl16 : Slot) (sl17 : Slot) (sl18 : Slot) (sl19 : Slot) (sl20 : Slot) (sl21 : Slot) (sl26 : Slot) (sl27 : Slot) (sl28 : Slot) (sl29 : Slot) (sl30 : Slot) (sl31 : Slot) (sl32 : Slot) (sl33 : Slot) (sl34 : Slot) (sl36 : Slot) (sl37 : Slot) (sl38 : Slot) (sl39 : Slot) (sl40 : Slot) (sl41 : Slot) (sl42 : Slot) (sl43 : Slot) (h0 : Heap) (h : Heap) : Prop := Keep h0 h [o0, v0, l0, w0] ∧ Exa Z h o0 "com/example/leeway/leeway/lp/SparseColumn" ∧ Fld Z h o0 "com/example/leeway/leeway/lp/SparseColumn" "values" "[D" (.ref v0) ∧ Fld Z h o0 "com/example/leeway/leeway/lp/SparseColumn" "listed" "[Z" (.ref l0) ∧ Fld Z h o0 "com/example/leeway/leeway/lp/SparseColumn" "rows" "[I" (.ref w0) ∧ Fld Z h o0 "com/example/leeway/leeway/lp/SparseColumn" "count" "I" (.int A.1) ∧ Arv Z h v0 kv .double (4 : Int32) A.2.2.2 (.double (0 : UInt64)) ∧ Arv Z h l0 kl .boolean (4 : Int32) A.2.2.1 (.int (0 : Int32)) ∧ Arv Z h w0 kw .int (4 : Int32) A.2.1 (.int (0 : Int32))
set_option maxRecDepth 65536 in
set_option maxHeartbeats 40000000 in
theorem cnd2N (l : Launch) (Z : State) (a0 : Array Value) (hw : ∀ d ∈ tables_1, d.before a0 Z = true) (o0 : Addr) (v0 : Addr) (l0 : Addr) (w0 : Addr) (kv : ClassId) (kl : ClassId) (kw : ClassId) (A : Jvm.OwnSC.OwnSt) (B : Jvm.OwnSC.OwnSt) (fl : Int32) (ii : Int32) (ww : UInt64) (sl0 : Slot) (sl1 : Slot) (sl2 : Slot) (sl3 : Slot) (sl4 : Slot) (sl5 : Slot) (sl6 : Slot) (sl7 : Slot) (sl8 : Slot) (sl9 : Slot) (sl10 : Slot) (sl11 : Slot) (sl12 : Slot) (sl13 : Slot) (sl14 : Slot) (sl15 : Slot) (sl16 : Slot) (sl17 : Slot) (sl18 : Slot) (sl19 : Slot) (sl20 : Slot) (sl21 : Slot) (sl26 : Slot) (sl27 : Slot) (sl28 : Slot) (sl29 : Slot) (sl30 : Slot) (sl31 : Slot) (sl32 : Slot) (sl33 : Slot) (sl34 : Slot) (sl36 : Slot) (sl37 : Slot) (sl38 : Slot) (sl39 : Slot) (sl40 : Slot) (sl41 : Slot) (sl42 : Slot) (sl43 : Slot) (h0 : Heap) (n0 : Nat) (Z0 : n0 ≤ h0.size) (F_values_o0 : Fld Z h0 o0 "com/example/leeway/leeway/lp/SparseColumn" "values" "[D" (.ref v0)) (F_listed_o0 : Fld Z h0 o0 "com/example/leeway/leeway/lp/SparseColumn" "listed" "[Z" (.ref l0)) (F_rows_o0 : Fld Z h0 o0 "com/example/leeway/leeway/lp/SparseColumn" "rows" "[I" (.ref w0)) (F_count_o0 : Fld Z h0 o0 "com/example/leeway/leeway/lp/SparseColumn" "count" "I" (.int A.1)) (E_o0 : Exa Z h0 o0 "com/example/leeway/leeway/lp/SparseColumn") (V_v0 : Arv Z h0 v0 kv .double (4 : Int32) A.2.2.2 (.double (0 : UInt64))) (V_l0 : Arv Z h0 l0 kl .boolean (4 : Int32) A.2.2.1 (.int (0 : Int32))) (V_w0 : Arv Z h0 w0 kw .int (4 : Int32) A.2.1 (.int (0 : Int32))) (g_o0 : n0 ≤ o0) (g_v0 : n0 ≤ v0) (g_l0 : n0 ≤ l0) (g_w0 : n0 ≤ w0) (ne_o0_v0 : o0 ≠ v0) (ne_o0_l0 : o0 ≠ l0) (ne_o0_w0 : o0 ≠ w0) (ne_v0_l0 : v0 ≠ l0) (ne_v0_w0 : v0 ≠ w0) (ne_l0_w0 : l0 ≠ w0) (hc307 : fl = (0 : Int32))
    {p : Program} {e : Env} {s : State} {m : MethodId} {args : Array Value} {below : List Frame} {meth : Method} {c : Code} {T0 : State} {locs0 : List Loc}
    (hx : p.tables.exec = Jvm.exec) (hby : c.code = code) (hml : c.maxLocals = 44) (hown : s.vm.findClass "com/example/leeway/leeway/lp/SparseColumnSubtractPinLaw" = some m.cls) (hZ : Z.Warmed39 s.vm) (X0 : Stand p l e room_1 s m args below meth c T0 locs0 10 31) (e0 : T0.heap = h0) (N0 : Fr n0 locs0) :
    ∃ T' L, Stand p l e room_1 s m args below meth c T' L 10 31 ∧ Fr n0 L ∧ Q_cnd2N Z o0 v0 l0 w0 kv kl kw A B fl ii ww sl0 sl1 sl2 sl3 sl4 sl5 sl6 sl7 sl8 sl9 sl10 sl11 sl12 sl13 sl14 sl15 sl16 sl17 sl18 sl19 sl20 sl21 sl26 sl27 sl28 sl29 sl30 sl31 sl32 sl33 sl34 sl36 sl37 sl38 sl39 sl40 sl41 sl42 sl43 h0 T'.heap ∧ ∀ target, Steps p.tables e below (T'.setTop (mkF m 319 #[sl0, sl1, sl2, sl3, sl4, sl5, sl6, sl7, sl8, sl9, sl10, sl11, sl12, sl13, sl14, sl15, sl16, sl17, sl18, sl19, sl20, sl21, .val (.int fl), .val (.int ii), .val (.double ww), .second, sl26, sl27, sl28, sl29, sl30, sl31, sl32, sl33, sl34, .val (.ref o0), sl36, sl37, sl38, sl39, sl40, sl41, sl42, sl43] [])) target → Steps p.tables e below (T0.setTop (mkF m 305 #[sl0, sl1, sl2, sl3, sl4, sl5, sl6, sl7, sl8, sl9, sl10, sl11, sl12, sl13, sl14, sl15, sl16, sl17, sl18, sl19, sl20, sl21, .val (.int fl), .val (.int ii), .val (.double ww), .second, sl26, sl27, sl28, sl29, sl30, sl31, sl32, sl33, sl34, .val (.ref o0), sl36, sl37, sl38, sl39, sl40, sl41, sl42, sl43] [])) target := by
  refine ⟨T0, _, X0, N0, ?_, fun target kt => ?_⟩
  · show Q_cnd2N Z o0 v0 l0 w0 kv kl kw A B fl ii ww sl0 sl1 sl2 sl3 sl4 sl5 sl6 sl7 sl8 sl9 sl10 sl11 sl12 sl13 sl14 sl15 sl16 sl17 sl18 sl19 sl20 sl21 sl26 sl27 sl28 sl29 sl30 sl31 sl32 sl33 sl34 sl36 sl37 sl38 sl39 sl40 sl41 sl42 sl43 h0 T0.heap
    rw [e0]
    exact ⟨(Keep.refl h0 [o0, v0, l0, w0]), E_o0, F_values_o0, F_listed_o0, F_rows_o0, F_count_o0, V_v0, V_l0, V_w0⟩
  · show Steps p.tables e below (T0.setTop (mkF m 305 #[sl0, sl1, sl2, sl3, sl4, sl5, sl6, sl7, sl8, sl9, sl10, sl11, sl12, sl13, sl14, sl15, sl16, sl17, sl18, sl19, sl20, sl21, .val (.int fl), .val (.int ii), .val (.double ww), .second, sl26, sl27, sl28, sl29, sl30, sl31, sl32, sl33, sl34, .val (.ref o0), sl36, sl37, sl38, sl39, sl40, sl41, sl42, sl43] [])) _
    refine XS.iload X0.here hx rfl (hb hby at_305) rfl ?_
    refine XS.ifYes X0.here hx rfl (pc0 := 307) (pc' := 319) rfl (hb hby at_307) rfl ((if0 _ _).trans (teq hc307).1) (by decide) (by decide) ?_
    exact kt
def Q_cnd2Y (Z : State) (o0 : Addr) (v0 : Addr) (l0 : Addr) (w0 : Addr) (kv : ClassId) (kl : ClassId) (kw : ClassId) (A : Jvm.OwnSC.OwnSt) (B : Jvm.OwnSC.OwnSt) (fl : Int32) (ii : Int32) (ww : UInt64) (sl0 : Slot) (sl1 : Slot) (sl2 : Slot) (sl3 : Slot) (sl4 : Slot) (sl5 : Slot) (sl6 : Slot) (sl7 : Slot) (sl8 : Slot) (sl9 : Slot) (sl10 : Slot) (sl11 : Slot) (sl12 : Slot) (sl13 : Slot) (sl14 : Slot) (sl15 : Slot) (sl16 : Slot) (sl17 : Slot) (sl18 : Slot) (sl19 : Slot) (sl20 : Slot) (sl21 : Slot) (sl26 : Slot) (sl27 : Slot) (sl28 : Slot) (sl29 : Slot) (sl30 : Slot) (sl31 : Slot) (sl32 : Slot) (sl33 : Slot) (sl34 : Slot) (sl36 : Slot) (sl37 : Slot) (sl38 : Slot) (sl39 : Slot) (sl40 : Slot) (sl41 : Slot) (sl42 : Slot) (sl43 : Slot) (h0 : Heap) (h : Heap) : Prop := Keep h0 h [o0, v0, l0, w0] ∧ Exa Z h o0 "com/example/leeway/leeway/lp/SparseColumn" ∧ Fld Z h o0 "com/example/leeway/leeway/lp/SparseColumn" "values" "[D" (.ref v0) ∧ Fld Z h o0 "com/example/leeway/leeway/lp/SparseColumn" "listed" "[Z" (.ref l0) ∧ Fld Z h o0 "com/example/leeway/leeway/lp/SparseColumn" "rows" "[I" (.ref w0) ∧ Fld Z h o0 "com/example/leeway/leeway/lp/SparseColumn" "count" "I" (.int B.1) ∧ Arv Z h v0 kv .double (4 : Int32) B.2.2.2 (.double (0 : UInt64)) ∧ Arv Z h l0 kl .boolean (4 : Int32) B.2.2.1 (.int (0 : Int32)) ∧ Arv Z h w0 kw .int (4 : Int32) B.2.1 (.int (0 : Int32))
set_option maxRecDepth 65536 in
set_option maxHeartbeats 40000000 in
theorem cnd2Y (l : Launch) (Z : State) (a0 : Array Value) (hw : ∀ d ∈ tables_1, d.before a0 Z = true) (o0 : Addr) (v0 : Addr) (l0 : Addr) (w0 : Addr) (kv : ClassId) (kl : ClassId) (kw : ClassId) (A : Jvm.OwnSC.OwnSt) (B : Jvm.OwnSC.OwnSt) (fl : Int32) (ii : Int32) (ww : UInt64) (sl0 : Slot) (sl1 : Slot) (sl2 : Slot) (sl3 : Slot) (sl4 : Slot) (sl5 : Slot) (sl6 : Slot) (sl7 : Slot) (sl8 : Slot) (sl9 : Slot) (sl10 : Slot) (sl11 : Slot) (sl12 : Slot) (sl13 : Slot) (sl14 : Slot) (sl15 : Slot) (sl16 : Slot) (sl17 : Slot) (sl18 : Slot) (sl19 : Slot) (sl20 : Slot) (sl21 : Slot) (sl26 : Slot) (sl27 : Slot) (sl28 : Slot) (sl29 : Slot) (sl30 : Slot) (sl31 : Slot) (sl32 : Slot) (sl33 : Slot) (sl34 : Slot) (sl36 : Slot) (sl37 : Slot) (sl38 : Slot) (sl39 : Slot) (sl40 : Slot) (sl41 : Slot) (sl42 : Slot) (sl43 : Slot) (h0 : Heap) (n0 : Nat) (Z0 : n0 ≤ h0.size) (F_values_o0 : Fld Z h0 o0 "com/example/leeway/leeway/lp/SparseColumn" "values" "[D" (.ref v0)) (F_listed_o0 : Fld Z h0 o0 "com/example/leeway/leeway/lp/SparseColumn" "listed" "[Z" (.ref l0)) (F_rows_o0 : Fld Z h0 o0 "com/example/leeway/leeway/lp/SparseColumn" "rows" "[I" (.ref w0)) (F_count_o0 : Fld Z h0 o0 "com/example/leeway/leeway/lp/SparseColumn" "count" "I" (.int A.1)) (E_o0 : Exa Z h0 o0 "com/example/leeway/leeway/lp/SparseColumn") (V_v0 : Arv Z h0 v0 kv .double (4 : Int32) A.2.2.2 (.double (0 : UInt64))) (V_l0 : Arv Z h0 l0 kl .boolean (4 : Int32) A.2.2.1 (.int (0 : Int32))) (V_w0 : Arv Z h0 w0 kw .int (4 : Int32) A.2.1 (.int (0 : Int32))) (g_o0 : n0 ≤ o0) (g_v0 : n0 ≤ v0) (g_l0 : n0 ≤ l0) (g_w0 : n0 ≤ w0) (ne_o0_v0 : o0 ≠ v0) (ne_o0_l0 : o0 ≠ l0) (ne_o0_w0 : o0 ≠ w0) (ne_v0_l0 : v0 ≠ l0) (ne_v0_w0 : v0 ≠ w0) (ne_l0_w0 : l0 ≠ w0) (hc307 : ¬ (fl = (0 : Int32))) (hadd_316 : Jvm.OwnSC.AddR A B ii ww)
    {p : Program} {e : Env} {s : State} {m : MethodId} {args : Array Value} {below : List Frame} {meth : Method} {c : Code} {T0 : State} {locs0 : List Loc}
    (hx : p.tables.exec = Jvm.exec) (hby : c.code = code) (hml : c.maxLocals = 44) (hown : s.vm.findClass "com/example/leeway/leeway/lp/SparseColumnSubtractPinLaw" = some m.cls) (hZ : Z.Warmed39 s.vm) (X0 : Stand p l e room_1 s m args below meth c T0 locs0 10 31) (e0 : T0.heap = h0) (N0 : Fr n0 locs0) :
    ∃ T' L, Stand p l e room_1 s m args below meth c T' L 10 31 ∧ Fr n0 L ∧ Q_cnd2Y Z o0 v0 l0 w0 kv kl kw A B fl ii ww sl0 sl1 sl2 sl3 sl4 sl5 sl6 sl7 sl8 sl9 sl10 sl11 sl12 sl13 sl14 sl15 sl16 sl17 sl18 sl19 sl20 sl21 sl26 sl27 sl28 sl29 sl30 sl31 sl32 sl33 sl34 sl36 sl37 sl38 sl39 sl40 sl41 sl42 sl43 h0 T'.heap ∧ ∀ target, Steps p.tables e below (T'.setTop (mkF m 319 #[sl0, sl1, sl2, sl3, sl4, sl5, sl6, sl7, sl8, sl9, sl10, sl11, sl12, sl13, sl14, sl15, sl16, sl17, sl18, sl19, sl20, sl21, .val (.int fl), .val (.int ii), .val (.double ww), .second, sl26, sl27, sl28, sl29, sl30, sl31, sl32, sl33, sl34, .val (.ref o0), sl36, sl37, sl38, sl39, sl40, sl41, sl42, sl43] [])) target → Steps p.tables e below (T0.setTop (mkF m 305 #[sl0, sl1, sl2, sl3, sl4, sl5, sl6, sl7, sl8, sl9, sl10, sl11, sl12, sl13, sl14, sl15, sl16, sl17, sl18, sl19, sl20, sl21, .val (.int fl), .val (.int ii), .val (.double ww), .second, sl26, sl27, sl28, sl29, sl30, sl31, sl32, sl33, sl34, .val (.ref o0), sl36, sl37, sl38, sl39, sl40, sl41, sl42, sl43] [])) target := by
  obtain ⟨cq1, kq1, q1a, q1b, q1c⟩ := isOf hZ e0 E_o0
  obtain ⟨_, _, ⟨T1, L1, k1, n1⟩, -, X1, ⟨Lc1, hQ1, lq1, yq1, zq1⟩, st1⟩ := X0.virtualBack hx (y := (⟨"com/example/leeway/leeway/lp/SparseColumn", "add", "(ID)V"⟩ : MethodName)) (z := (⟨"com/example/leeway/leeway/lp/SparseColumn", "add", "(ID)V"⟩ : MethodName)) hown (mvT hZ (hw _ (List.mem_of_getElem? (i := 50) rfl))) (mvT hZ (hw _ (List.mem_of_getElem? (i := 51) rfl))) (notFace_of_selects (args := #[]) (mvT hZ (hw _ (List.mem_of_getElem? (i := 53) rfl)))) (mvT hZ (hw _ (List.mem_of_getElem? (i := 53) rfl))) (mvT hZ (hw _ (List.mem_of_getElem? (i := 52) rfl))) (by decide) (backOf (W := 0) (addM l Z a0 hw [] o0 v0 l0 w0 kv kl kw A B ii ww h0 n0 Z0 F_values_o0 F_listed_o0 F_rows_o0 F_count_o0 E_o0 V_v0 V_l0 V_w0 g_o0 g_v0 g_l0 g_w0 ne_o0_v0 ne_o0_l0 ne_o0_w0 ne_v0_l0 ne_v0_w0 ne_l0_w0 hadd_316) hZ (hw _ (List.mem_of_getElem? (i := 54) rfl)) (hw _ (List.mem_of_getElem? (i := 5) rfl)) (by decide) (by decide)) q1a q1c (g := (mkF m 316 #[sl0, sl1, sl2, sl3, sl4, sl5, sl6, sl7, sl8, sl9, sl10, sl11, sl12, sl13, sl14, sl15, sl16, sl17, sl18, sl19, sl20, sl21, .val (.int fl), .val (.int ii), .val (.double ww), .second, sl26, sl27, sl28, sl29, sl30, sl31, sl32, sl33, sl34, .val (.ref o0), sl36, sl37, sl38, sl39, sl40, sl41, sl42, sl43] [(.double ww), (.int ii), (.ref o0)])) rfl (by rw [hml]; rfl) (Steps.refl _) (argsL := [(.int ii), (.double ww)]) (rest := []) (lenOf pd_1 rfl) rfl (by show 2 * 0 + _ ≤ _; exact Nat.le_of_eq rfl) (hb hby at_316) (fun _ _ => ⟨rfl, e0, (by decide : 10 + 0 ≤ _), (by decide : 31 + 0 ≤ _)⟩)
  dsimp only [Pt.U, Pt.locs, Pt.cells, Pt.slots] at X1 lq1 yq1 zq1 st1 hQ1
  rw [lq1, yq1, zq1] at X1
  obtain ⟨rfl, N1q, K1q, f2, f3, f4, f5, f6, f7, f8, f9⟩ := hQ1
  have N1 := Fr.app N0 N1q
  have f10 := E_o0.keep K1q
  have K1 : Keep h0 T1.heap [o0, v0, l0, w0] := (Keep.refl h0 [o0, v0, l0, w0]).trans K1q (own_allS (Or.inl (List.mem_of_getElem? (i := 0) rfl)) (own_allS (Or.inl (List.mem_of_getElem? (i := 1) rfl)) (own_allS (Or.inl (List.mem_of_getElem? (i := 2) rfl)) (own_allS (Or.inl (List.mem_of_getElem? (i := 3) rfl)) own_all0))))
  have Zs1 := Nat.le_trans Z0 K1q.1
  refine ⟨T1, _, X1, N1, ?_, fun target kt => ?_⟩
  · show Q_cnd2Y Z o0 v0 l0 w0 kv kl kw A B fl ii ww sl0 sl1 sl2 sl3 sl4 sl5 sl6 sl7 sl8 sl9 sl10 sl11 sl12 sl13 sl14 sl15 sl16 sl17 sl18 sl19 sl20 sl21 sl26 sl27 sl28 sl29 sl30 sl31 sl32 sl33 sl34 sl36 sl37 sl38 sl39 sl40 sl41 sl42 sl43 h0 T1.heap
    exact ⟨K1, f2, f3, f4, f5, f6, f7, f8, f9⟩
  · show Steps p.tables e below (T0.setTop (mkF m 305 #[sl0, sl1, sl2, sl3, sl4, sl5, sl6, sl7, sl8, sl9, sl10, sl11, sl12, sl13, sl14, sl15, sl16, sl17, sl18, sl19, sl20, sl21, .val (.int fl), .val (.int ii), .val (.double ww), .second, sl26, sl27, sl28, sl29, sl30, sl31, sl32, sl33, sl34, .val (.ref o0), sl36, sl37, sl38, sl39, sl40, sl41, sl42, sl43] [])) _
    refine XS.iload X0.here hx rfl (hb hby at_305) rfl ?_
    refine XS.ifNo X0.here hx rfl (hb hby at_307) rfl ((if0 _ _).trans (feq hc307).1) ?_
    refine XS.aload X0.here hx rfl (hb hby at_310) rfl rfl ?_
    refine XS.iload X0.here hx rfl (hb hby at_312) rfl ?_
    refine XS.dload X0.here hx rfl (hb hby at_314) rfl ?_
    show Steps p.tables e below (T0.setTop (mkF m 316 #[sl0, sl1, sl2, sl3, sl4, sl5, sl6, sl7, sl8, sl9, sl10, sl11, sl12, sl13, sl14, sl15, sl16, sl17, sl18, sl19, sl20, sl21, .val (.int fl), .val (.int ii), .val (.double ww), .second, sl26, sl27, sl28, sl29, sl30, sl31, sl32, sl33, sl34, .val (.ref o0), sl36, sl37, sl38, sl39, sl40, sl41, sl42, sl43] [(.double ww), (.int ii), (.ref o0)])) _
    refine st1.trans ?_
    exact kt
def Q_cnd2 (Z : State) (o0 : Addr) (v0 : Addr) (l0 : Addr) (w0 : Addr) (kv : ClassId) (kl : ClassId) (kw : ClassId) (A : Jvm.OwnSC.OwnSt) (B : Jvm.OwnSC.OwnSt) (fl : Int32) (ii : Int32) (ww : UInt64) (sl0 : Slot) (sl1 : Slot) (sl2 : Slot) (sl3 : Slot) (sl4 : Slot) (sl5 : Slot) (sl6 : Slot) (sl7 : Slot) (sl8 : Slot) (sl9 : Slot) (sl10 : Slot) (sl11 : Slot) (sl12 : Slot) (sl13 : Slot) (sl14 : Slot) (sl15 : Slot) (sl16 : Slot) (sl17 : Slot) (sl18 : Slot) (sl19 : Slot) (sl20 : Slot) (sl21 : Slot) (sl26 : Slot) (sl27 : Slot) (sl28 : Slot) (sl29 : Slot) (sl30 : Slot) (sl31 : Slot) (sl32 : Slot) (sl33 : Slot) (sl34 : Slot) (sl36 : Slot) (sl37 : Slot) (sl38 : Slot) (sl39 : Slot) (sl40 : Slot) (sl41 : Slot) (sl42 : Slot) (sl43 : Slot) (h0 : Heap) (h : Heap) : Prop := Keep h0 h [o0, v0, l0, w0] ∧ Exa Z h o0 "com/example/leeway/leeway/lp/SparseColumn" ∧ Fld Z h o0 "com/example/leeway/leeway/lp/SparseColumn" "values" "[D" (.ref v0) ∧ Fld Z h o0 "com/example/leeway/leeway/lp/SparseColumn" "listed" "[Z" (.ref l0) ∧ Fld Z h o0 "com/example/leeway/leeway/lp/SparseColumn" "rows" "[I" (.ref w0) ∧ Fld Z h o0 "com/example/leeway/leeway/lp/SparseColumn" "count" "I" (.int B.1) ∧ Arv Z h v0 kv .double (4 : Int32) B.2.2.2 (.double (0 : UInt64)) ∧ Arv Z h l0 kl .boolean (4 : Int32) B.2.2.1 (.int (0 : Int32)) ∧ Arv Z h w0 kw .int (4 : Int32) B.2.1 (.int (0 : Int32))
set_option maxRecDepth 65536 in
set_option maxHeartbeats 40000000 in
theorem cnd2 (l : Launch) (Z : State) (a0 : Array Value) (hw : ∀ d ∈ tables_1, d.before a0 Z = true) (o0 : Addr) (v0 : Addr) (l0 : Addr) (w0 : Addr) (kv : ClassId) (kl : ClassId) (kw : ClassId) (A : Jvm.OwnSC.OwnSt) (B : Jvm.OwnSC.OwnSt) (fl : Int32) (ii : Int32) (ww : UInt64) (sl0 : Slot) (sl1 : Slot) (sl2 : Slot) (sl3 : Slot) (sl4 : Slot) (sl5 : Slot) (sl6 : Slot) (sl7 : Slot) (sl8 : Slot) (sl9 : Slot) (sl10 : Slot) (sl11 : Slot) (sl12 : Slot) (sl13 : Slot) (sl14 : Slot) (sl15 : Slot) (sl16 : Slot) (sl17 : Slot) (sl18 : Slot) (sl19 : Slot) (sl20 : Slot) (sl21 : Slot) (sl26 : Slot) (sl27 : Slot) (sl28 : Slot) (sl29 : Slot) (sl30 : Slot) (sl31 : Slot) (sl32 : Slot) (sl33 : Slot) (sl34 : Slot) (sl36 : Slot) (sl37 : Slot) (sl38 : Slot) (sl39 : Slot) (sl40 : Slot) (sl41 : Slot) (sl42 : Slot) (sl43 : Slot) (h0 : Heap) (n0 : Nat) (Z0 : n0 ≤ h0.size) (F_values_o0 : Fld Z h0 o0 "com/example/leeway/leeway/lp/SparseColumn" "values" "[D" (.ref v0)) (F_listed_o0 : Fld Z h0 o0 "com/example/leeway/leeway/lp/SparseColumn" "listed" "[Z" (.ref l0)) (F_rows_o0 : Fld Z h0 o0 "com/example/leeway/leeway/lp/SparseColumn" "rows" "[I" (.ref w0)) (F_count_o0 : Fld Z h0 o0 "com/example/leeway/leeway/lp/SparseColumn" "count" "I" (.int A.1)) (E_o0 : Exa Z h0 o0 "com/example/leeway/leeway/lp/SparseColumn") (V_v0 : Arv Z h0 v0 kv .double (4 : Int32) A.2.2.2 (.double (0 : UInt64))) (V_l0 : Arv Z h0 l0 kl .boolean (4 : Int32) A.2.2.1 (.int (0 : Int32))) (V_w0 : Arv Z h0 w0 kw .int (4 : Int32) A.2.1 (.int (0 : Int32))) (g_o0 : n0 ≤ o0) (g_v0 : n0 ≤ v0) (g_l0 : n0 ≤ l0) (g_w0 : n0 ≤ w0) (ne_o0_v0 : o0 ≠ v0) (ne_o0_l0 : o0 ≠ l0) (ne_o0_w0 : o0 ≠ w0) (ne_v0_l0 : v0 ≠ l0) (ne_v0_w0 : v0 ≠ w0) (ne_l0_w0 : l0 ≠ w0) (hcnd : Jvm.OwnSC.CondR A B fl ii ww)
    {p : Program} {e : Env} {s : State} {m : MethodId} {args : Array Value} {below : List Frame} {meth : Method} {c : Code} {T0 : State} {locs0 : List Loc}
    (hx : p.tables.exec = Jvm.exec) (hby : c.code = code) (hml : c.maxLocals = 44) (hown : s.vm.findClass "com/example/leeway/leeway/lp/SparseColumnSubtractPinLaw" = some m.cls) (hZ : Z.Warmed39 s.vm) (X0 : Stand p l e room_1 s m args below meth c T0 locs0 10 31) (e0 : T0.heap = h0) (N0 : Fr n0 locs0) :
    ∃ T' L, Stand p l e room_1 s m args below meth c T' L 10 31 ∧ Fr n0 L ∧ Q_cnd2 Z o0 v0 l0 w0 kv kl kw A B fl ii ww sl0 sl1 sl2 sl3 sl4 sl5 sl6 sl7 sl8 sl9 sl10 sl11 sl12 sl13 sl14 sl15 sl16 sl17 sl18 sl19 sl20 sl21 sl26 sl27 sl28 sl29 sl30 sl31 sl32 sl33 sl34 sl36 sl37 sl38 sl39 sl40 sl41 sl42 sl43 h0 T'.heap ∧ ∀ target, Steps p.tables e below (T'.setTop (mkF m 319 #[sl0, sl1, sl2, sl3, sl4, sl5, sl6, sl7, sl8, sl9, sl10, sl11, sl12, sl13, sl14, sl15, sl16, sl17, sl18, sl19, sl20, sl21, .val (.int fl), .val (.int ii), .val (.double ww), .second, sl26, sl27, sl28, sl29, sl30, sl31, sl32, sl33, sl34, .val (.ref o0), sl36, sl37, sl38, sl39, sl40, sl41, sl42, sl43] [])) target → Steps p.tables e below (T0.setTop (mkF m 305 #[sl0, sl1, sl2, sl3, sl4, sl5, sl6, sl7, sl8, sl9, sl10, sl11, sl12, sl13, sl14, sl15, sl16, sl17, sl18, sl19, sl20, sl21, .val (.int fl), .val (.int ii), .val (.double ww), .second, sl26, sl27, sl28, sl29, sl30, sl31, sl32, sl33, sl34, .val (.ref o0), sl36, sl37, sl38, sl39, sl40, sl41, sl42, sl43] [])) target := by
  rcases hcnd with ⟨h1, hAB⟩ | ⟨h1, h2⟩
  · subst hAB
    exact cnd2N l Z a0 hw o0 v0 l0 w0 kv kl kw A A fl ii ww sl0 sl1 sl2 sl3 sl4 sl5 sl6 sl7 sl8 sl9 sl10 sl11 sl12 sl13 sl14 sl15 sl16 sl17 sl18 sl19 sl20 sl21 sl26 sl27 sl28 sl29 sl30 sl31 sl32 sl33 sl34 sl36 sl37 sl38 sl39 sl40 sl41 sl42 sl43 h0 n0 Z0 (F_values_o0 := F_values_o0) (F_listed_o0 := F_listed_o0) (F_rows_o0 := F_rows_o0) (F_count_o0 := F_count_o0) (E_o0 := E_o0) (V_v0 := V_v0) (V_l0 := V_l0) (V_w0 := V_w0) (g_o0 := g_o0) (g_v0 := g_v0) (g_l0 := g_l0) (g_w0 := g_w0) (ne_o0_v0 := ne_o0_v0) (ne_o0_l0 := ne_o0_l0) (ne_o0_w0 := ne_o0_w0) (ne_v0_l0 := ne_v0_l0) (ne_v0_w0 := ne_v0_w0) (ne_l0_w0 := ne_l0_w0) (hc307 := h1) (hx := hx) (hby := hby) (hml := hml) (hown := hown) (hZ := hZ) (X0 := X0) (e0 := e0) (N0 := N0)
  · exact cnd2Y l Z a0 hw o0 v0 l0 w0 kv kl kw A B fl ii ww sl0 sl1 sl2 sl3 sl4 sl5 sl6 sl7 sl8 sl9 sl10 sl11 sl12 sl13 sl14 sl15 sl16 sl17 sl18 sl19 sl20 sl21 sl26 sl27 sl28 sl29 sl30 sl31 sl32 sl33 sl34 sl36 sl37 sl38 sl39 sl40 sl41 sl42 sl43 h0 n0 Z0 (F_values_o0 := F_values_o0) (F_listed_o0 := F_listed_o0) (F_rows_o0 := F_rows_o0) (F_count_o0 := F_count_o0) (E_o0 := E_o0) (V_v0 := V_v0) (V_l0 := V_l0) (V_w0 := V_w0) (g_o0 := g_o0) (g_v0 := g_v0) (g_l0 := g_l0) (g_w0 := g_w0) (ne_o0_v0 := ne_o0_v0) (ne_o0_l0 := ne_o0_l0) (ne_o0_w0 := ne_o0_w0) (ne_v0_l0 := ne_v0_l0) (ne_v0_w0 := ne_v0_w0) (ne_l0_w0 := ne_l0_w0) (hc307 := h1) (hadd_316 := h2) (hx := hx) (hby := hby) (hml := hml) (hown := hown) (hZ := hZ) (X0 := X0) (e0 := e0) (N0 := N0)
theorem pd_2 : parseMethodDescriptor "([I[DIID)V" = some ⟨[(.array .int), (.array .double), .int, .int, .double], none⟩ := by decide +kernel
theorem pd_3 : parseMethodDescriptor "()[D" = some ⟨[], some (.array .double)⟩ := by decide +kernel
theorem pd_4 : parseMethodDescriptor "()[I" = some ⟨[], some (.array .int)⟩ := by decide +kernel
theorem pd_5 : parseMethodDescriptor "()I" = some ⟨[], some .int⟩ := by decide +kernel
theorem pd_6 : parseMethodDescriptor "(I[Z[I[Z[I)Z" = some ⟨[.int, (.array .boolean), (.array .int), (.array .boolean), (.array .int)], some .boolean⟩ := by decide +kernel
theorem pd_7 : parseMethodDescriptor "([III)Z" = some ⟨[(.array .int), .int, .int], some .boolean⟩ := by decide +kernel
theorem pd_8 : parseMethodDescriptor "(I[Z[I[D[Z[I[DD)D" = some ⟨[.int, (.array .boolean), (.array .int), (.array .double), (.array .boolean), (.array .int), (.array .double), .double], some .double⟩ := by decide +kernel
theorem ef_0_IIIII (m : MethodId) (x0 : Int32) (x1 : Int32) (x2 : Int32) (x3 : Int32) (x4 : Int32) : entryFrame m #[(.int x0), (.int x1), (.int x2), (.int x3), (.int x4)] maxLocals = mkF m 0 #[.val (.int x0), .val (.int x1), .val (.int x2), .val (.int x3), .val (.int x4), .unset, .unset, .unset, .unset, .unset, .unset, .unset, .unset, .unset, .unset, .unset, .unset, .unset, .unset, .unset, .unset, .unset, .unset, .unset, .unset, .unset, .unset, .unset, .unset, .unset, .unset, .unset, .unset, .unset, .unset, .unset, .unset, .unset, .unset, .unset, .unset, .unset, .unset, .unset] [] := by first | (simp [entryFrame, mkF, argsToLocals, Value.category, maxLocals]; done) | rfl
def Q0 (n0 : Nat) (v : Option Value) (h : Heap) (L : List Loc) : Prop := v = some (.int (1 : Int32)) ∧ Fr n0 L
set_option maxRecDepth 65536 in
set_option maxHeartbeats 40000000 in
theorem rm0 (l : Launch) (Z : State) (a0 : Array Value) (hw : ∀ d ∈ tables_1, d.before a0 Z = true) (ws : List Jvm.Cond) (p0 : Int32) (p1 : Int32) (p2 : Int32) (p3 : Int32) (p4 : Int32) (SA : Jvm.OwnSC.OwnSt) (SB : Jvm.OwnSC.OwnSt) (SF : Jvm.OwnSC.OwnSt) (lz0 : Int32) (pz0 : Int32) (ev0 : UInt64) (qr0 : Int32) (xr0 : UInt64) (lz1 : Int32) (pz1 : Int32) (ev1 : UInt64) (qr1 : Int32) (xr1 : UInt64) (lz2 : Int32) (pz2 : Int32) (ev2 : UInt64) (qr2 : Int32) (xr2 : UInt64) (lz3 : Int32) (pz3 : Int32) (ev3 : UInt64) (qr3 : Int32) (xr3 : UInt64) (r0 : Int32) (r1 : Int32) (r2 : Int32) (u0 : UInt64) (u1 : UInt64) (u2 : UInt64) (fr : Int32) (tt : Int32) (fa : UInt64) (a1 : Int32) (i1 : Int32) (w1 : UInt64) (a2 : Int32) (i2 : Int32) (w2 : UInt64) (jz0 : Int32) (in0 : Int32) (jz1 : Int32) (in1 : Int32) (jz2 : Int32) (in2 : Int32) (tz0 : Int32) (tz1 : Int32) (tz2 : Int32) (tz3 : Int32) (h0 : Heap) (n0 : Nat) (Z0 : n0 ≤ h0.size) (hqs : SF.2.1 = ([(.int qr0), (.int qr1), (.int qr2), (.int qr3)] : List Value)) (hxs : SF.2.2.2 = ([(.double xr0), (.double xr1), (.double xr2), (.double xr3)] : List Value)) (hv2 : (p0 &&& (3 : Int32)) = r0) (hv9 : (((p0.toUInt32 >>> ((2 : Int32) &&& 31).toUInt32).toInt32) &&& (3 : Int32)) = r1) (hv16 : (((p0.toUInt32 >>> ((4 : Int32) &&& 31).toUInt32).toInt32) &&& (3 : Int32)) = r2) (hq21 : (FP.i2d (p1.toInt8.toInt32)) = u0) (hq29 : (FP.i2d (((p1.toUInt32 >>> ((8 : Int32) &&& 31).toUInt32).toInt32).toInt8.toInt32)) = u1) (hq37 : (FP.i2d (((p1.toUInt32 >>> ((16 : Int32) &&& 31).toUInt32).toInt32).toInt8.toInt32)) = u2) (hv42 : (p2 &&& (3 : Int32)) = fr) (hv49 : (((p2.toUInt32 >>> ((2 : Int32) &&& 31).toUInt32).toInt32) &&& (3 : Int32)) = tt) (hq54 : (FP.i2d (p3.toInt16.toInt32)) = fa) (hj_a1 : (if (p4 &&& (1 : Int32)) = (0 : Int32) then (0 : Int32) else (1 : Int32)) = a1) (hv76 : (((p4.toUInt32 >>> ((1 : Int32) &&& 31).toUInt32).toInt32) &&& (3 : Int32)) = i1) (hq85 : (FP.i2d (((p4.toUInt32 >>> ((8 : Int32) &&& 31).toUInt32).toInt32).toInt8.toInt32)) = w1) (hj_a2 : (if (p4 &&& (8 : Int32)) = (0 : Int32) then (0 : Int32) else (1 : Int32)) = a2) (hv108 : (((p4.toUInt32 >>> ((4 : Int32) &&& 31).toUInt32).toInt32) &&& (3 : Int32)) = i2) (hq117 : (FP.i2d (((p4.toUInt32 >>> ((16 : Int32) &&& 31).toUInt32).toInt32).toInt8.toInt32)) = w2) (hj_jz0 : (if (0 : Int32) < tt then (1 : Int32) else (0 : Int32)) = jz0) (hj_in0 : (if (0 : Int32) < fr then (0 : Int32) else jz0) = in0) (hj_jz1 : (if (1 : Int32) < tt then (1 : Int32) else (0 : Int32)) = jz1) (hj_in1 : (if (1 : Int32) < fr then (0 : Int32) else jz1) = in1) (hj_jz2 : (if (2 : Int32) < tt then (1 : Int32) else (0 : Int32)) = jz2) (hj_in2 : (if (2 : Int32) < fr then (0 : Int32) else jz2) = in2) (hz223 : a1 = (0 : Int32) ∨ a1 = (1 : Int32)) (hz228 : a2 = (0 : Int32) ∨ a2 = (1 : Int32)) (hz268 : in0 = (0 : Int32) ∨ in0 = (1 : Int32)) (hz273 : in1 = (0 : Int32) ∨ in1 = (1 : Int32)) (hz278 : in2 = (0 : Int32) ∨ in2 = (1 : Int32)) (hcnd_291 : Jvm.OwnSC.CondR Jvm.OwnSC.S0 SA a1 i1 w1) (hcnd_305 : Jvm.OwnSC.CondR SA SB a2 i2 w2) (hsub_331 : Jvm.OwnSC.SubR SB SF fr tt ([(.int r0), (.int r1), (.int r2)] : List Value) ([(.double u0), (.double u1), (.double u2)] : List Value) fa) (hc357 : ¬ (SF.1 < (0 : Int32))) (hc363 : ¬ ((4 : Int32) < SF.1)) (hlz_391 : lz0 = Jvm.OwnSC.le (0 : Int32) a1 a2 i1 i2 in0 in1 in2 r0 r1 r2) (hlz_405 : lz1 = Jvm.OwnSC.le (1 : Int32) a1 a2 i1 i2 in0 in1 in2 r0 r1 r2) (hlz_419 : lz2 = Jvm.OwnSC.le (2 : Int32) a1 a2 i1 i2 in0 in1 in2 r0 r1 r2) (hlz_433 : lz3 = Jvm.OwnSC.le (3 : Int32) a1 a2 i1 i2 in0 in1 in2 r0 r1 r2) (hj_tz0 : (if lz0 = (0 : Int32) then (0 : Int32) else (1 : Int32)) = tz0) (hj_tz1 : (if lz1 = (0 : Int32) then (0 : Int32) else (1 : Int32)) = tz1) (hj_tz2 : (if lz2 = (0 : Int32) then (0 : Int32) else (1 : Int32)) = tz2) (hj_tz3 : (if lz3 = (0 : Int32) then (0 : Int32) else (1 : Int32)) = tz3) (hc487 : SF.1 = (((tz0 + tz1) + tz2) + tz3)) (hpz_497 : pz0 = Jvm.OwnSC.pr SF.1 (0 : Int32) qr0 qr1 qr2 qr3) (hc502 : pz0 = lz0) (hpz_510 : pz1 = Jvm.OwnSC.pr SF.1 (1 : Int32) qr0 qr1 qr2 qr3) (hc515 : pz1 = lz1) (hpz_523 : pz2 = Jvm.OwnSC.pr SF.1 (2 : Int32) qr0 qr1 qr2 qr3) (hc528 : pz2 = lz2) (hpz_536 : pz3 = Jvm.OwnSC.pr SF.1 (3 : Int32) qr0 qr1 qr2 qr3) (hc541 : pz3 = lz3) (hev_565 : ev0 = Jvm.OwnSC.ve (0 : Int32) a1 a2 i1 i2 in0 in1 in2 r0 r1 r2 w1 w2 u0 u1 u2 fa) (hnn_565 : Jvm.OwnSC.VN (0 : Int32) a1 a2 i1 i2 in0 in1 in2 r0 r1 r2 w1 w2 u0 u1 u2 fa) (hd568 : (cmpValue (FP.dcmp xr0 ev0) .l) = (0 : Int32)) (hev_591 : ev1 = Jvm.OwnSC.ve (1 : Int32) a1 a2 i1 i2 in0 in1 in2 r0 r1 r2 w1 w2 u0 u1 u2 fa) (hnn_591 : Jvm.OwnSC.VN (1 : Int32) a1 a2 i1 i2 in0 in1 in2 r0 r1 r2 w1 w2 u0 u1 u2 fa) (hd594 : (cmpValue (FP.dcmp xr1 ev1) .l) = (0 : Int32)) (hev_617 : ev2 = Jvm.OwnSC.ve (2 : Int32) a1 a2 i1 i2 in0 in1 in2 r0 r1 r2 w1 w2 u0 u1 u2 fa) (hnn_617 : Jvm.OwnSC.VN (2 : Int32) a1 a2 i1 i2 in0 in1 in2 r0 r1 r2 w1 w2 u0 u1 u2 fa) (hd620 : (cmpValue (FP.dcmp xr2 ev2) .l) = (0 : Int32)) (hev_643 : ev3 = Jvm.OwnSC.ve (3 : Int32) a1 a2 i1 i2 in0 in1 in2 r0 r1 r2 w1 w2 u0 u1 u2 fa) (hnn_643 : Jvm.OwnSC.VN (3 : Int32) a1 a2 i1 i2 in0 in1 in2 r0 r1 r2 w1 w2 u0 u1 u2 fa) (hd646 : (cmpValue (FP.dcmp xr3 ev3) .l) = (0 : Int32)) :
    MetFree l x (head1 (Jvm.Cond.code x code maxLocals ret :: ws) room_1) (fun a U => a = #[(.int p0), (.int p1), (.int p2), (.int p3), (.int p4)] ∧ Z.Warmed39 U.vm ∧ U.heap = h0) (fun _ _ _ _ _ => True) (fun _ U o U' => ∃ v L, o = .returned v ∧ Q0 n0 v U'.heap L ∧ FrameEnd U o U' L room_1.cells room_1.slots) := by
  refine MetFree.of_bodySF (plainFor_of_name pn_com_example_leeway_leeway_lp_SparseColumnSubtractPinLaw) hisR ?_
  intro p e s m args below meth c s₁ Bd hml0 hP hK
  obtain ⟨rfl, hZ, hh⟩ := hP
  have hx := Bd.exec
  have hby := Bd.bytes
  have hml : c.maxLocals = 44 := hml0
  have hown : s.vm.findClass "com/example/leeway/leeway/lp/SparseColumnSubtractPinLaw" = some m.cls := findClass_of_methodNamed Bd.named
  have hnm := (name_of_methodNamed Bd.named Bd.method).1
  have X0 : Stand p l e room_1 s m #[(.int p0), (.int p1), (.int p2), (.int p3), (.int p4)] below meth c s₁ [] 0 0 := Stand.of_body Bd
  have e0 : s₁.heap = h0 := by rw [← hh, Bd.state]; rfl
  have N0 := Fr.nil n0
  have pre0 : ∀ t, Steps p.tables e below (s₁.setTop (mkF m 0 #[.val (.int p0), .val (.int p1), .val (.int p2), .val (.int p3), .val (.int p4), .unset, .unset, .unset, .unset, .unset, .unset, .unset, .unset, .unset, .unset, .unset, .unset, .unset, .unset, .unset, .unset, .unset, .unset, .unset, .unset, .unset, .unset, .unset, .unset, .unset, .unset, .unset, .unset, .unset, .unset, .unset, .unset, .unset, .unset, .unset, .unset, .unset, .unset, .unset] [])) t → Steps p.tables e below (s₁.setTop (entryFrame m #[(.int p0), (.int p1), (.int p2), (.int p3), (.int p4)] maxLocals)) t := fun t k => castTop (ef_0_IIIII m p0 p1 p2 p3 p4) k
  have jn1 : ∀ target, Steps p.tables e below (s₁.setTop (mkF m 69 #[.val (.int p0), .val (.int p1), .val (.int p2), .val (.int p3), .val (.int p4), .val (.int r0), .val (.int r1), .val (.int r2), .val (.double u0), .second, .val (.double u1), .second, .val (.double u2), .second, .val (.int fr), .val (.int tt), .val (.double fa), .second, .unset, .unset, .unset, .unset, .unset, .unset, .unset, .unset, .unset, .unset, .unset, .unset, .unset, .unset, .unset, .unset, .unset, .unset, .unset, .unset, .unset, .unset, .unset, .unset, .unset, .unset] [(.int a1)])) target → Steps p.tables e below (s₁.setTop (mkF m 61 #[.val (.int p0), .val (.int p1), .val (.int p2), .val (.int p3), .val (.int p4), .val (.int r0), .val (.int r1), .val (.int r2), .val (.double u0), .second, .val (.double u1), .second, .val (.double u2), .second, .val (.int fr), .val (.int tt), .val (.double fa), .second, .unset, .unset, .unset, .unset, .unset, .unset, .unset, .unset, .unset, .unset, .unset, .unset, .unset, .unset, .unset, .unset, .unset, .unset, .unset, .unset, .unset, .unset, .unset, .unset, .unset, .unset] [(.int (p4 &&& (1 : Int32)))])) target := by
    intro target kt
    by_cases hq : (p4 &&& (1 : Int32)) = (0 : Int32)
    · rw [← ((if_pos hq).symm.trans hj_a1)] at kt
      show Steps p.tables e below (s₁.setTop (mkF m 61 #[.val (.int p0), .val (.int p1), .val (.int p2), .val (.int p3), .val (.int p4), .val (.int r0), .val (.int r1), .val (.int r2), .val (.double u0), .second, .val (.double u1), .second, .val (.double u2), .second, .val (.int fr), .val (.int tt), .val (.double fa), .second, .unset, .unset, .unset, .unset, .unset, .unset, .unset, .unset, .unset, .unset, .unset, .unset, .unset, .unset, .unset, .unset, .unset, .unset, .unset, .unset, .unset, .unset, .unset, .unset, .unset, .unset] [(.int (p4 &&& (1 : Int32)))])) _
      refine XS.ifYes X0.here hx rfl (pc0 := 61) (pc' := 68) rfl (hb hby at_61) rfl ((if0 _ _).trans (teq hq).1) (by decide) (by decide) ?_
      refine XS.iconst X0.here hx rfl (hb hby at_68) ?_
      show Steps p.tables e below (s₁.setTop (mkF m 69 #[.val (.int p0), .val (.int p1), .val (.int p2), .val (.int p3), .val (.int p4), .val (.int r0), .val (.int r1), .val (.int r2), .val (.double u0), .second, .val (.double u1), .second, .val (.double u2), .second, .val (.int fr), .val (.int tt), .val (.double fa), .second, .unset, .unset, .unset, .unset, .unset, .unset, .unset, .unset, .unset, .unset, .unset, .unset, .unset, .unset, .unset, .unset, .unset, .unset, .unset, .unset, .unset, .unset, .unset, .unset, .unset, .unset] [(.int (0 : Int32))])) _
      exact kt
    · rw [← ((if_neg hq).symm.trans hj_a1)] at kt
      show Steps p.tables e below (s₁.setTop (mkF m 61 #[.val (.int p0), .val (.int p1), .val (.int p2), .val (.int p3), .val (.int p4), .val (.int r0), .val (.int r1), .val (.int r2), .val (.double u0), .second, .val (.double u1), .second, .val (.double u2), .second, .val (.int fr), .val (.int tt), .val (.double fa), .second, .unset, .unset, .unset, .unset, .unset, .unset, .unset, .unset, .unset, .unset, .unset, .unset, .unset, .unset, .unset, .unset, .unset, .unset, .unset, .unset, .unset, .unset, .unset, .unset, .unset, .unset] [(.int (p4 &&& (1 : Int32)))])) _
      refine XS.ifNo X0.here hx rfl (hb hby at_61) rfl ((if0 _ _).trans (feq hq).1) ?_
      refine XS.iconst X0.here hx rfl (hb hby at_64) ?_
      refine XS.goto X0.here hx rfl (pc0 := 65) (pc' := 69) rfl (hb hby at_65) (by decide) (by decide) ?_
      show Steps p.tables e below (s₁.setTop (mkF m 69 #[.val (.int p0), .val (.int p1), .val (.int p2), .val (.int p3), .val (.int p4), .val (.int r0), .val (.int r1), .val (.int r2), .val (.double u0), .second, .val (.double u1), .second, .val (.double u2), .second, .val (.int fr), .val (.int tt), .val (.double fa), .second, .unset, .unset, .unset, .unset, .unset, .unset, .unset, .unset, .unset, .unset, .unset, .unset, .unset, .unset, .unset, .unset, .unset, .unset, .unset, .unset, .unset, .unset, .unset, .unset, .unset, .unset] [(.int (1 : Int32))])) _
      exact kt
  have jn2 : ∀ target, Steps p.tables e below (s₁.setTop (mkF m 101 #[.val (.int p0), .val (.int p1), .val (.int p2), .val (.int p3), .val (.int p4), .val (.int r0), .val (.int r1), .val (.int r2), .val (.double u0), .second, .val (.double u1), .second, .val (.double u2), .second, .val (.int fr), .val (.int tt), .val (.double fa), .second, .val (.int a1), .val (.int i1), .val (.double w1), .second, .unset, .unset, .unset, .unset, .unset, .unset, .unset, .unset, .unset, .unset, .unset, .unset, .unset, .unset, .unset, .unset, .unset, .unset, .unset, .unset, .unset, .unset] [(.int a2)])) target → Steps p.tables e below (s₁.setTop (mkF m 93 #[.val (.int p0), .val (.int p1), .val (.int p2), .val (.int p3), .val (.int p4), .val (.int r0), .val (.int r1), .val (.int r2), .val (.double u0), .second, .val (.double u1), .second, .val (.double u2), .second, .val (.int fr), .val (.int tt), .val (.double fa), .second, .val (.int a1), .val (.int i1), .val (.double w1), .second, .unset, .unset, .unset, .unset, .unset, .unset, .unset, .unset, .unset, .unset, .unset, .unset, .unset, .unset, .unset, .unset, .unset, .unset, .unset, .unset, .unset, .unset] [(.int (p4 &&& (8 : Int32)))])) target := by
    intro target kt
    by_cases hq : (p4 &&& (8 : Int32)) = (0 : Int32)
    · rw [← ((if_pos hq).symm.trans hj_a2)] at kt
      show Steps p.tables e below (s₁.setTop (mkF m 93 #[.val (.int p0), .val (.int p1), .val (.int p2), .val (.int p3), .val (.int p4), .val (.int r0), .val (.int r1), .val (.int r2), .val (.double u0), .second, .val (.double u1), .second, .val (.double u2), .second, .val (.int fr), .val (.int tt), .val (.double fa), .second, .val (.int a1), .val (.int i1), .val (.double w1), .second, .unset, .unset, .unset, .unset, .unset, .unset, .unset, .unset, .unset, .unset, .unset, .unset, .unset, .unset, .unset, .unset, .unset, .unset, .unset, .unset, .unset, .unset] [(.int (p4 &&& (8 : Int32)))])) _
      refine XS.ifYes X0.here hx rfl (pc0 := 93) (pc' := 100) rfl (hb hby at_93) rfl ((if0 _ _).trans (teq hq).1) (by decide) (by decide) ?_
      refine XS.iconst X0.here hx rfl (hb hby at_100) ?_
      show Steps p.tables e below (s₁.setTop (mkF m 101 #[.val (.int p0), .val (.int p1), .val (.int p2), .val (.int p3), .val (.int p4), .val (.int r0), .val (.int r1), .val (.int r2), .val (.double u0), .second, .val (.double u1), .second, .val (.double u2), .second, .val (.int fr), .val (.int tt), .val (.double fa), .second, .val (.int a1), .val (.int i1), .val (.double w1), .second, .unset, .unset, .unset, .unset, .unset, .unset, .unset, .unset, .unset, .unset, .unset, .unset, .unset, .unset, .unset, .unset, .unset, .unset, .unset, .unset, .unset, .unset] [(.int (0 : Int32))])) _
      exact kt
    · rw [← ((if_neg hq).symm.trans hj_a2)] at kt
      show Steps p.tables e below (s₁.setTop (mkF m 93 #[.val (.int p0), .val (.int p1), .val (.int p2), .val (.int p3), .val (.int p4), .val (.int r0), .val (.int r1), .val (.int r2), .val (.double u0), .second, .val (.double u1), .second, .val (.double u2), .second, .val (.int fr), .val (.int tt), .val (.double fa), .second, .val (.int a1), .val (.int i1), .val (.double w1), .second, .unset, .unset, .unset, .unset, .unset, .unset, .unset, .unset, .unset, .unset, .unset, .unset, .unset, .unset, .unset, .unset, .unset, .unset, .unset, .unset, .unset, .unset] [(.int (p4 &&& (8 : Int32)))])) _
      refine XS.ifNo X0.here hx rfl (hb hby at_93) rfl ((if0 _ _).trans (feq hq).1) ?_
      refine XS.iconst X0.here hx rfl (hb hby at_96) ?_
      refine XS.goto X0.here hx rfl (pc0 := 97) (pc' := 101) rfl (hb hby at_97) (by decide) (by decide) ?_
      show Steps p.tables e below (s₁.setTop (mkF m 101 #[.val (.int p0), .val (.int p1), .val (.int p2), .val (.int p3), .val (.int p4), .val (.int r0), .val (.int r1), .val (.int r2), .val (.double u0), .second, .val (.double u1), .second, .val (.double u2), .second, .val (.int fr), .val (.int tt), .val (.double fa), .second, .val (.int a1), .val (.int i1), .val (.double w1), .second, .unset, .unset, .unset, .unset, .unset, .unset, .unset, .unset, .unset, .unset, .unset, .unset, .unset, .unset, .unset, .unset, .unset, .unset, .unset, .unset, .unset, .unset] [(.int (1 : Int32))])) _
      exact kt
  have jn3 : ∀ target, Steps p.tables e below (s₁.setTop (mkF m 136 #[.val (.int p0), .val (.int p1), .val (.int p2), .val (.int p3), .val (.int p4), .val (.int r0), .val (.int r1), .val (.int r2), .val (.double u0), .second, .val (.double u1), .second, .val (.double u2), .second, .val (.int fr), .val (.int tt), .val (.double fa), .second, .val (.int a1), .val (.int i1), .val (.double w1), .second, .val (.int a2), .val (.int i2), .val (.double w2), .second, .unset, .unset, .unset, .unset, .unset, .unset, .unset, .unset, .unset, .unset, .unset, .unset, .unset, .unset, .unset, .unset, .unset, .unset] [(.int jz0)])) target → Steps p.tables e below (s₁.setTop (mkF m 128 #[.val (.int p0), .val (.int p1), .val (.int p2), .val (.int p3), .val (.int p4), .val (.int r0), .val (.int r1), .val (.int r2), .val (.double u0), .second, .val (.double u1), .second, .val (.double u2), .second, .val (.int fr), .val (.int tt), .val (.double fa), .second, .val (.int a1), .val (.int i1), .val (.double w1), .second, .val (.int a2), .val (.int i2), .val (.double w2), .second, .unset, .unset, .unset, .unset, .unset, .unset, .unset, .unset, .unset, .unset, .unset, .unset, .unset, .unset, .unset, .unset, .unset, .unset] [(.int tt), (.int (0 : Int32))])) target := by
    intro target kt
    by_cases hq : (0 : Int32) < tt
    · rw [← ((if_pos hq).symm.trans hj_jz0)] at kt
      show Steps p.tables e below (s₁.setTop (mkF m 128 #[.val (.int p0), .val (.int p1), .val (.int p2), .val (.int p3), .val (.int p4), .val (.int r0), .val (.int r1), .val (.int r2), .val (.double u0), .second, .val (.double u1), .second, .val (.double u2), .second, .val (.int fr), .val (.int tt), .val (.double fa), .second, .val (.int a1), .val (.int i1), .val (.double w1), .second, .val (.int a2), .val (.int i2), .val (.double w2), .second, .unset, .unset, .unset, .unset, .unset, .unset, .unset, .unset, .unset, .unset, .unset, .unset, .unset, .unset, .unset, .unset, .unset, .unset] [(.int tt), (.int (0 : Int32))])) _
      refine XS.icmpNo X0.here hx rfl (hb hby at_128) rfl (tlt hq).2.1 ?_
      refine XS.iconst X0.here hx rfl (hb hby at_131) ?_
      refine XS.goto X0.here hx rfl (pc0 := 132) (pc' := 136) rfl (hb hby at_132) (by decide) (by decide) ?_
      show Steps p.tables e below (s₁.setTop (mkF m 136 #[.val (.int p0), .val (.int p1), .val (.int p2), .val (.int p3), .val (.int p4), .val (.int r0), .val (.int r1), .val (.int r2), .val (.double u0), .second, .val (.double u1), .second, .val (.double u2), .second, .val (.int fr), .val (.int tt), .val (.double fa), .second, .val (.int a1), .val (.int i1), .val (.double w1), .second, .val (.int a2), .val (.int i2), .val (.double w2), .second, .unset, .unset, .unset, .unset, .unset, .unset, .unset, .unset, .unset, .unset, .unset, .unset, .unset, .unset, .unset, .unset, .unset, .unset] [(.int (1 : Int32))])) _
      exact kt
    · rw [← ((if_neg hq).symm.trans hj_jz0)] at kt
      show Steps p.tables e below (s₁.setTop (mkF m 128 #[.val (.int p0), .val (.int p1), .val (.int p2), .val (.int p3), .val (.int p4), .val (.int r0), .val (.int r1), .val (.int r2), .val (.double u0), .second, .val (.double u1), .second, .val (.double u2), .second, .val (.int fr), .val (.int tt), .val (.double fa), .second, .val (.int a1), .val (.int i1), .val (.double w1), .second, .val (.int a2), .val (.int i2), .val (.double w2), .second, .unset, .unset, .unset, .unset, .unset, .unset, .unset, .unset, .unset, .unset, .unset, .unset, .unset, .unset, .unset, .unset, .unset, .unset] [(.int tt), (.int (0 : Int32))])) _
      refine XS.icmpYes X0.here hx rfl (pc0 := 128) (pc' := 135) rfl (hb hby at_128) rfl (flt hq).2.1 (by decide) (by decide) ?_
      show Steps p.tables e below (s₁.setTop (mkF m 135 #[.val (.int p0), .val (.int p1), .val (.int p2), .val (.int p3), .val (.int p4), .val (.int r0), .val (.int r1), .val (.int r2), .val (.double u0), .second, .val (.double u1), .second, .val (.double u2), .second, .val (.int fr), .val (.int tt), .val (.double fa), .second, .val (.int a1), .val (.int i1), .val (.double w1), .second, .val (.int a2), .val (.int i2), .val (.double w2), .second, .unset, .unset, .unset, .unset, .unset, .unset, .unset, .unset, .unset, .unset, .unset, .unset, .unset, .unset, .unset, .unset, .unset, .unset] [])) _
      refine XS.iconst X0.here hx rfl (hb hby at_135) ?_
      show Steps p.tables e below (s₁.setTop (mkF m 136 #[.val (.int p0), .val (.int p1), .val (.int p2), .val (.int p3), .val (.int p4), .val (.int r0), .val (.int r1), .val (.int r2), .val (.double u0), .second, .val (.double u1), .second, .val (.double u2), .second, .val (.int fr), .val (.int tt), .val (.double fa), .second, .val (.int a1), .val (.int i1), .val (.double w1), .second, .val (.int a2), .val (.int i2), .val (.double w2), .second, .unset, .unset, .unset, .unset, .unset, .unset, .unset, .unset, .unset, .unset, .unset, .unset, .unset, .unset, .unset, .unset, .unset, .unset] [(.int (0 : Int32))])) _
      exact kt
  have jn4 : ∀ target, Steps p.tables e below (s₁.setTop (mkF m 136 #[.val (.int p0), .val (.int p1), .val (.int p2), .val (.int p3), .val (.int p4), .val (.int r0), .val (.int r1), .val (.int r2), .val (.double u0), .second, .val (.double u1), .second, .val (.double u2), .second, .val (.int fr), .val (.int tt), .val (.double fa), .second, .val (.int a1), .val (.int i1), .val (.double w1), .second, .val (.int a2), .val (.int i2), .val (.double w2), .second, .unset, .unset, .unset, .unset, .unset, .unset, .unset, .unset, .unset, .unset, .unset, .unset, .unset, .unset, .unset, .unset, .unset, .unset] [(.int in0)])) target → Steps p.tables e below (s₁.setTop (mkF m 122 #[.val (.int p0), .val (.int p1), .val (.int p2), .val (.int p3), .val (.int p4), .val (.int r0), .val (.int r1), .val (.int r2), .val (.double u0), .second, .val (.double u1), .second, .val (.double u2), .second, .val (.int fr), .val (.int tt), .val (.double fa), .second, .val (.int a1), .val (.int i1), .val (.double w1), .second, .val (.int a2), .val (.int i2), .val (.double w2), .second, .unset, .unset, .unset, .unset, .unset, .unset, .unset, .unset, .unset, .unset, .unset, .unset, .unset, .unset, .unset, .unset, .unset, .unset] [(.int fr)])) target := by
    intro target kt
    by_cases hq : (0 : Int32) < fr
    · rw [← ((if_pos hq).symm.trans hj_in0)] at kt
      show Steps p.tables e below (s₁.setTop (mkF m 122 #[.val (.int p0), .val (.int p1), .val (.int p2), .val (.int p3), .val (.int p4), .val (.int r0), .val (.int r1), .val (.int r2), .val (.double u0), .second, .val (.double u1), .second, .val (.double u2), .second, .val (.int fr), .val (.int tt), .val (.double fa), .second, .val (.int a1), .val (.int i1), .val (.double w1), .second, .val (.int a2), .val (.int i2), .val (.double w2), .second, .unset, .unset, .unset, .unset, .unset, .unset, .unset, .unset, .unset, .unset, .unset, .unset, .unset, .unset, .unset, .unset, .unset, .unset] [(.int fr)])) _
      refine XS.ifYes X0.here hx rfl (pc0 := 122) (pc' := 135) rfl (hb hby at_122) rfl ((if0 _ _).trans (tlt hq).2.2.1) (by decide) (by decide) ?_
      refine XS.iconst X0.here hx rfl (hb hby at_135) ?_
      show Steps p.tables e below (s₁.setTop (mkF m 136 #[.val (.int p0), .val (.int p1), .val (.int p2), .val (.int p3), .val (.int p4), .val (.int r0), .val (.int r1), .val (.int r2), .val (.double u0), .second, .val (.double u1), .second, .val (.double u2), .second, .val (.int fr), .val (.int tt), .val (.double fa), .second, .val (.int a1), .val (.int i1), .val (.double w1), .second, .val (.int a2), .val (.int i2), .val (.double w2), .second, .unset, .unset, .unset, .unset, .unset, .unset, .unset, .unset, .unset, .unset, .unset, .unset, .unset, .unset, .unset, .unset, .unset, .unset] [(.int (0 : Int32))])) _
      exact kt
    · rw [← ((if_neg hq).symm.trans hj_in0)] at kt
      show Steps p.tables e below (s₁.setTop (mkF m 122 #[.val (.int p0), .val (.int p1), .val (.int p2), .val (.int p3), .val (.int p4), .val (.int r0), .val (.int r1), .val (.int r2), .val (.double u0), .second, .val (.double u1), .second, .val (.double u2), .second, .val (.int fr), .val (.int tt), .val (.double fa), .second, .val (.int a1), .val (.int i1), .val (.double w1), .second, .val (.int a2), .val (.int i2), .val (.double w2), .second, .unset, .unset, .unset, .unset, .unset, .unset, .unset, .unset, .unset, .unset, .unset, .unset, .unset, .unset, .unset, .unset, .unset, .unset] [(.int fr)])) _
      refine XS.ifNo X0.here hx rfl (hb hby at_122) rfl ((if0 _ _).trans (flt hq).2.2.1) ?_
      show Steps p.tables e below (s₁.setTop (mkF m 125 #[.val (.int p0), .val (.int p1), .val (.int p2), .val (.int p3), .val (.int p4), .val (.int r0), .val (.int r1), .val (.int r2), .val (.double u0), .second, .val (.double u1), .second, .val (.double u2), .second, .val (.int fr), .val (.int tt), .val (.double fa), .second, .val (.int a1), .val (.int i1), .val (.double w1), .second, .val (.int a2), .val (.int i2), .val (.double w2), .second, .unset, .unset, .unset, .unset, .unset, .unset, .unset, .unset, .unset, .unset, .unset, .unset, .unset, .unset, .unset, .unset, .unset, .unset] [])) _
      refine XS.iconst X0.here hx rfl (hb hby at_125) ?_
      refine XS.iload X0.here hx rfl (hb hby at_126) rfl ?_
      show Steps p.tables e below (s₁.setTop (mkF m 128 #[.val (.int p0), .val (.int p1), .val (.int p2), .val (.int p3), .val (.int p4), .val (.int r0), .val (.int r1), .val (.int r2), .val (.double u0), .second, .val (.double u1), .second, .val (.double u2), .second, .val (.int fr), .val (.int tt), .val (.double fa), .second, .val (.int a1), .val (.int i1), .val (.double w1), .second, .val (.int a2), .val (.int i2), .val (.double w2), .second, .unset, .unset, .unset, .unset, .unset, .unset, .unset, .unset, .unset, .unset, .unset, .unset, .unset, .unset, .unset, .unset, .unset, .unset] [(.int tt), (.int (0 : Int32))])) _
      refine jn3 _ ?_
      show Steps p.tables e below (s₁.setTop (mkF m 136 #[.val (.int p0), .val (.int p1), .val (.int p2), .val (.int p3), .val (.int p4), .val (.int r0), .val (.int r1), .val (.int r2), .val (.double u0), .second, .val (.double u1), .second, .val (.double u2), .second, .val (.int fr), .val (.int tt), .val (.double fa), .second, .val (.int a1), .val (.int i1), .val (.double w1), .second, .val (.int a2), .val (.int i2), .val (.double w2), .second, .unset, .unset, .unset, .unset, .unset, .unset, .unset, .unset, .unset, .unset, .unset, .unset, .unset, .unset, .unset, .unset, .unset, .unset] [(.int jz0)])) _
      exact kt
  have jn5 : ∀ target, Steps p.tables e below (s₁.setTop (mkF m 155 #[.val (.int p0), .val (.int p1), .val (.int p2), .val (.int p3), .val (.int p4), .val (.int r0), .val (.int r1), .val (.int r2), .val (.double u0), .second, .val (.double u1), .second, .val (.double u2), .second, .val (.int fr), .val (.int tt), .val (.double fa), .second, .val (.int a1), .val (.int i1), .val (.double w1), .second, .val (.int a2), .val (.int i2), .val (.double w2), .second, .val (.int in0), .unset, .unset, .unset, .unset, .unset, .unset, .unset, .unset, .unset, .unset, .unset, .unset, .unset, .unset, .unset, .unset, .unset] [(.int jz1)])) target → Steps p.tables e below (s₁.setTop (mkF m 147 #[.val (.int p0), .val (.int p1), .val (.int p2), .val (.int p3), .val (.int p4), .val (.int r0), .val (.int r1), .val (.int r2), .val (.double u0), .second, .val (.double u1), .second, .val (.double u2), .second, .val (.int fr), .val (.int tt), .val (.double fa), .second, .val (.int a1), .val (.int i1), .val (.double w1), .second, .val (.int a2), .val (.int i2), .val (.double w2), .second, .val (.int in0), .unset, .unset, .unset, .unset, .unset, .unset, .unset, .unset, .unset, .unset, .unset, .unset, .unset, .unset, .unset, .unset, .unset] [(.int tt), (.int (1 : Int32))])) target := by
    intro target kt
    by_cases hq : (1 : Int32) < tt
    · rw [← ((if_pos hq).symm.trans hj_jz1)] at kt
      show Steps p.tables e below (s₁.setTop (mkF m 147 #[.val (.int p0), .val (.int p1), .val (.int p2), .val (.int p3), .val (.int p4), .val (.int r0), .val (.int r1), .val (.int r2), .val (.double u0), .second, .val (.double u1), .second, .val (.double u2), .second, .val (.int fr), .val (.int tt), .val (.double fa), .second, .val (.int a1), .val (.int i1), .val (.double w1), .second, .val (.int a2), .val (.int i2), .val (.double w2), .second, .val (.int in0), .unset, .unset, .unset, .unset, .unset, .unset, .unset, .unset, .unset, .unset, .unset, .unset, .unset, .unset, .unset, .unset, .unset] [(.int tt), (.int (1 : Int32))])) _
      refine XS.icmpNo X0.here hx rfl (hb hby at_147) rfl (tlt hq).2.1 ?_
      show Steps p.tables e below (s₁.setTop (mkF m 150 #[.val (.int p0), .val (.int p1), .val (.int p2), .val (.int p3), .val (.int p4), .val (.int r0), .val (.int r1), .val (.int r2), .val (.double u0), .second, .val (.double u1), .second, .val (.double u2), .second, .val (.int fr), .val (.int tt), .val (.double fa), .second, .val (.int a1), .val (.int i1), .val (.double w1), .second, .val (.int a2), .val (.int i2), .val (.double w2), .second, .val (.int in0), .unset, .unset, .unset, .unset, .unset, .unset, .unset, .unset, .unset, .unset, .unset, .unset, .unset, .unset, .unset, .unset, .unset] [])) _
      refine XS.iconst X0.here hx rfl (hb hby at_150) ?_
      refine XS.goto X0.here hx rfl (pc0 := 151) (pc' := 155) rfl (hb hby at_151) (by decide) (by decide) ?_
      show Steps p.tables e below (s₁.setTop (mkF m 155 #[.val (.int p0), .val (.int p1), .val (.int p2), .val (.int p3), .val (.int p4), .val (.int r0), .val (.int r1), .val (.int r2), .val (.double u0), .second, .val (.double u1), .second, .val (.double u2), .second, .val (.int fr), .val (.int tt), .val (.double fa), .second, .val (.int a1), .val (.int i1), .val (.double w1), .second, .val (.int a2), .val (.int i2), .val (.double w2), .second, .val (.int in0), .unset, .unset, .unset, .unset, .unset, .unset, .unset, .unset, .unset, .unset, .unset, .unset, .unset, .unset, .unset, .unset, .unset] [(.int (1 : Int32))])) _
      exact kt
    · rw [← ((if_neg hq).symm.trans hj_jz1)] at kt
      show Steps p.tables e below (s₁.setTop (mkF m 147 #[.val (.int p0), .val (.int p1), .val (.int p2), .val (.int p3), .val (.int p4), .val (.int r0), .val (.int r1), .val (.int r2), .val (.double u0), .second, .val (.double u1), .second, .val (.double u2), .second, .val (.int fr), .val (.int tt), .val (.double fa), .second, .val (.int a1), .val (.int i1), .val (.double w1), .second, .val (.int a2), .val (.int i2), .val (.double w2), .second, .val (.int in0), .unset, .unset, .unset, .unset, .unset, .unset, .unset, .unset, .unset, .unset, .unset, .unset, .unset, .unset, .unset, .unset, .unset] [(.int tt), (.int (1 : Int32))])) _
      refine XS.icmpYes X0.here hx rfl (pc0 := 147) (pc' := 154) rfl (hb hby at_147) rfl (flt hq).2.1 (by decide) (by decide) ?_
      refine XS.iconst X0.here hx rfl (hb hby at_154) ?_
      show Steps p.tables e below (s₁.setTop (mkF m 155 #[.val (.int p0), .val (.int p1), .val (.int p2), .val (.int p3), .val (.int p4), .val (.int r0), .val (.int r1), .val (.int r2), .val (.double u0), .second, .val (.double u1), .second, .val (.double u2), .second, .val (.int fr), .val (.int tt), .val (.double fa), .second, .val (.int a1), .val (.int i1), .val (.double w1), .second, .val (.int a2), .val (.int i2), .val (.double w2), .second, .val (.int in0), .unset, .unset, .unset, .unset, .unset, .unset, .unset, .unset, .unset, .unset, .unset, .unset, .unset, .unset, .unset, .unset, .unset] [(.int (0 : Int32))])) _
      exact kt
  have jn6 : ∀ target, Steps p.tables e below (s₁.setTop (mkF m 155 #[.val (.int p0), .val (.int p1), .val (.int p2), .val (.int p3), .val (.int p4), .val (.int r0), .val (.int r1), .val (.int r2), .val (.double u0), .second, .val (.double u1), .second, .val (.double u2), .second, .val (.int fr), .val (.int tt), .val (.double fa), .second, .val (.int a1), .val (.int i1), .val (.double w1), .second, .val (.int a2), .val (.int i2), .val (.double w2), .second, .val (.int in0), .unset, .unset, .unset, .unset, .unset, .unset, .unset, .unset, .unset, .unset, .unset, .unset, .unset, .unset, .unset, .unset, .unset] [(.int in1)])) target → Steps p.tables e below (s₁.setTop (mkF m 141 #[.val (.int p0), .val (.int p1), .val (.int p2), .val (.int p3), .val (.int p4), .val (.int r0), .val (.int r1), .val (.int r2), .val (.double u0), .second, .val (.double u1), .second, .val (.double u2), .second, .val (.int fr), .val (.int tt), .val (.double fa), .second, .val (.int a1), .val (.int i1), .val (.double w1), .second, .val (.int a2), .val (.int i2), .val (.double w2), .second, .val (.int in0), .unset, .unset, .unset, .unset, .unset, .unset, .unset, .unset, .unset, .unset, .unset, .unset, .unset, .unset, .unset, .unset, .unset] [(.int (1 : Int32)), (.int fr)])) target := by
    intro target kt
    by_cases hq : (1 : Int32) < fr
    · rw [← ((if_pos hq).symm.trans hj_in1)] at kt
      show Steps p.tables e below (s₁.setTop (mkF m 141 #[.val (.int p0), .val (.int p1), .val (.int p2), .val (.int p3), .val (.int p4), .val (.int r0), .val (.int r1), .val (.int r2), .val (.double u0), .second, .val (.double u1), .second, .val (.double u2), .second, .val (.int fr), .val (.int tt), .val (.double fa), .second, .val (.int a1), .val (.int i1), .val (.double w1), .second, .val (.int a2), .val (.int i2), .val (.double w2), .second, .val (.int in0), .unset, .unset, .unset, .unset, .unset, .unset, .unset, .unset, .unset, .unset, .unset, .unset, .unset, .unset, .unset, .unset, .unset] [(.int (1 : Int32)), (.int fr)])) _
      refine XS.icmpYes X0.here hx rfl (pc0 := 141) (pc' := 154) rfl (hb hby at_141) rfl (tlt hq).2.2.1 (by decide) (by decide) ?_
      refine XS.iconst X0.here hx rfl (hb hby at_154) ?_
      show Steps p.tables e below (s₁.setTop (mkF m 155 #[.val (.int p0), .val (.int p1), .val (.int p2), .val (.int p3), .val (.int p4), .val (.int r0), .val (.int r1), .val (.int r2), .val (.double u0), .second, .val (.double u1), .second, .val (.double u2), .second, .val (.int fr), .val (.int tt), .val (.double fa), .second, .val (.int a1), .val (.int i1), .val (.double w1), .second, .val (.int a2), .val (.int i2), .val (.double w2), .second, .val (.int in0), .unset, .unset, .unset, .unset, .unset, .unset, .unset, .unset, .unset, .unset, .unset, .unset, .unset, .unset, .unset, .unset, .unset] [(.int (0 : Int32))])) _
      exact kt
    · rw [← ((if_neg hq).symm.trans hj_in1)] at kt
      show Steps p.tables e below (s₁.setTop (mkF m 141 #[.val (.int p0), .val (.int p1), .val (.int p2), .val (.int p3), .val (.int p4), .val (.int r0), .val (.int r1), .val (.int r2), .val (.double u0), .second, .val (.double u1), .second, .val (.double u2), .second, .val (.int fr), .val (.int tt), .val (.double fa), .second, .val (.int a1), .val (.int i1), .val (.double w1), .second, .val (.int a2), .val (.int i2), .val (.double w2), .second, .val (.int in0), .unset, .unset, .unset, .unset, .unset, .unset, .unset, .unset, .unset, .unset, .unset, .unset, .unset, .unset, .unset, .unset, .unset] [(.int (1 : Int32)), (.int fr)])) _
      refine XS.icmpNo X0.here hx rfl (hb hby at_141) rfl (flt hq).2.2.1 ?_
      refine XS.iconst X0.here hx rfl (hb hby at_144) ?_
      refine XS.iload X0.here hx rfl (hb hby at_145) rfl ?_
      show Steps p.tables e below (s₁.setTop (mkF m 147 #[.val (.int p0), .val (.int p1), .val (.int p2), .val (.int p3), .val (.int p4), .val (.int r0), .val (.int r1), .val (.int r2), .val (.double u0), .second, .val (.double u1), .second, .val (.double u2), .second, .val (.int fr), .val (.int tt), .val (.double fa), .second, .val (.int a1), .val (.int i1), .val (.double w1), .second, .val (.int a2), .val (.int i2), .val (.double w2), .second, .val (.int in0), .unset, .unset, .unset, .unset, .unset, .unset, .unset, .unset, .unset, .unset, .unset, .unset, .unset, .unset, .unset, .unset, .unset] [(.int tt), (.int (1 : Int32))])) _
      refine jn5 _ ?_
      show Steps p.tables e below (s₁.setTop (mkF m 155 #[.val (.int p0), .val (.int p1), .val (.int p2), .val (.int p3), .val (.int p4), .val (.int r0), .val (.int r1), .val (.int r2), .val (.double u0), .second, .val (.double u1), .second, .val (.double u2), .second, .val (.int fr), .val (.int tt), .val (.double fa), .second, .val (.int a1), .val (.int i1), .val (.double w1), .second, .val (.int a2), .val (.int i2), .val (.double w2), .second, .val (.int in0), .unset, .unset, .unset, .unset, .unset, .unset, .unset, .unset, .unset, .unset, .unset, .unset, .unset, .unset, .unset, .unset, .unset] [(.int jz1)])) _
      exact kt
  have jn7 : ∀ target, Steps p.tables e below (s₁.setTop (mkF m 174 #[.val (.int p0), .val (.int p1), .val (.int p2), .val (.int p3), .val (.int p4), .val (.int r0), .val (.int r1), .val (.int r2), .val (.double u0), .second, .val (.double u1), .second, .val (.double u2), .second, .val (.int fr), .val (.int tt), .val (.double fa), .second, .val (.int a1), .val (.int i1), .val (.double w1), .second, .val (.int a2), .val (.int i2), .val (.double w2), .second, .val (.int in0), .val (.int in1), .unset, .unset, .unset, .unset, .unset, .unset, .unset, .unset, .unset, .unset, .unset, .unset, .unset, .unset, .unset, .unset] [(.int jz2)])) target → Steps p.tables e below (s₁.setTop (mkF m 166 #[.val (.int p0), .val (.int p1), .val (.int p2), .val (.int p3), .val (.int p4), .val (.int r0), .val (.int r1), .val (.int r2), .val (.double u0), .second, .val (.double u1), .second, .val (.double u2), .second, .val (.int fr), .val (.int tt), .val (.double fa), .second, .val (.int a1), .val (.int i1), .val (.double w1), .second, .val (.int a2), .val (.int i2), .val (.double w2), .second, .val (.int in0), .val (.int in1), .unset, .unset, .unset, .unset, .unset, .unset, .unset, .unset, .unset, .unset, .unset, .unset, .unset, .unset, .unset, .unset] [(.int tt), (.int (2 : Int32))])) target := by
    intro target kt
    by_cases hq : (2 : Int32) < tt
    · rw [← ((if_pos hq).symm.trans hj_jz2)] at kt
      show Steps p.tables e below (s₁.setTop (mkF m 166 #[.val (.int p0), .val (.int p1), .val (.int p2), .val (.int p3), .val (.int p4), .val (.int r0), .val (.int r1), .val (.int r2), .val (.double u0), .second, .val (.double u1), .second, .val (.double u2), .second, .val (.int fr), .val (.int tt), .val (.double fa), .second, .val (.int a1), .val (.int i1), .val (.double w1), .second, .val (.int a2), .val (.int i2), .val (.double w2), .second, .val (.int in0), .val (.int in1), .unset, .unset, .unset, .unset, .unset, .unset, .unset, .unset, .unset, .unset, .unset, .unset, .unset, .unset, .unset, .unset] [(.int tt), (.int (2 : Int32))])) _
      refine XS.icmpNo X0.here hx rfl (hb hby at_166) rfl (tlt hq).2.1 ?_
      refine XS.iconst X0.here hx rfl (hb hby at_169) ?_
      refine XS.goto X0.here hx rfl (pc0 := 170) (pc' := 174) rfl (hb hby at_170) (by decide) (by decide) ?_
      show Steps p.tables e below (s₁.setTop (mkF m 174 #[.val (.int p0), .val (.int p1), .val (.int p2), .val (.int p3), .val (.int p4), .val (.int r0), .val (.int r1), .val (.int r2), .val (.double u0), .second, .val (.double u1), .second, .val (.double u2), .second, .val (.int fr), .val (.int tt), .val (.double fa), .second, .val (.int a1), .val (.int i1), .val (.double w1), .second, .val (.int a2), .val (.int i2), .val (.double w2), .second, .val (.int in0), .val (.int in1), .unset, .unset, .unset, .unset, .unset, .unset, .unset, .unset, .unset, .unset, .unset, .unset, .unset, .unset, .unset, .unset] [(.int (1 : Int32))])) _
      exact kt
    · rw [← ((if_neg hq).symm.trans hj_jz2)] at kt
      show Steps p.tables e below (s₁.setTop (mkF m 166 #[.val (.int p0), .val (.int p1), .val (.int p2), .val (.int p3), .val (.int p4), .val (.int r0), .val (.int r1), .val (.int r2), .val (.double u0), .second, .val (.double u1), .second, .val (.double u2), .second, .val (.int fr), .val (.int tt), .val (.double fa), .second, .val (.int a1), .val (.int i1), .val (.double w1), .second, .val (.int a2), .val (.int i2), .val (.double w2), .second, .val (.int in0), .val (.int in1), .unset, .unset, .unset, .unset, .unset, .unset, .unset, .unset, .unset, .unset, .unset, .unset, .unset, .unset, .unset, .unset] [(.int tt), (.int (2 : Int32))])) _
      refine XS.icmpYes X0.here hx rfl (pc0 := 166) (pc' := 173) rfl (hb hby at_166) rfl (flt hq).2.1 (by decide) (by decide) ?_
      show Steps p.tables e below (s₁.setTop (mkF m 173 #[.val (.int p0), .val (.int p1), .val (.int p2), .val (.int p3), .val (.int p4), .val (.int r0), .val (.int r1), .val (.int r2), .val (.double u0), .second, .val (.double u1), .second, .val (.double u2), .second, .val (.int fr), .val (.int tt), .val (.double fa), .second, .val (.int a1), .val (.int i1), .val (.double w1), .second, .val (.int a2), .val (.int i2), .val (.double w2), .second, .val (.int in0), .val (.int in1), .unset, .unset, .unset, .unset, .unset, .unset, .unset, .unset, .unset, .unset, .unset, .unset, .unset, .unset, .unset, .unset] [])) _
      refine XS.iconst X0.here hx rfl (hb hby at_173) ?_
      show Steps p.tables e below (s₁.setTop (mkF m 174 #[.val (.int p0), .val (.int p1), .val (.int p2), .val (.int p3), .val (.int p4), .val (.int r0), .val (.int r1), .val (.int r2), .val (.double u0), .second, .val (.double u1), .second, .val (.double u2), .second, .val (.int fr), .val (.int tt), .val (.double fa), .second, .val (.int a1), .val (.int i1), .val (.double w1), .second, .val (.int a2), .val (.int i2), .val (.double w2), .second, .val (.int in0), .val (.int in1), .unset, .unset, .unset, .unset, .unset, .unset, .unset, .unset, .unset, .unset, .unset, .unset, .unset, .unset, .unset, .unset] [(.int (0 : Int32))])) _
      exact kt
  have jn8 : ∀ target, Steps p.tables e below (s₁.setTop (mkF m 174 #[.val (.int p0), .val (.int p1), .val (.int p2), .val (.int p3), .val (.int p4), .val (.int r0), .val (.int r1), .val (.int r2), .val (.double u0), .second, .val (.double u1), .second, .val (.double u2), .second, .val (.int fr), .val (.int tt), .val (.double fa), .second, .val (.int a1), .val (.int i1), .val (.double w1), .second, .val (.int a2), .val (.int i2), .val (.double w2), .second, .val (.int in0), .val (.int in1), .unset, .unset, .unset, .unset, .unset, .unset, .unset, .unset, .unset, .unset, .unset, .unset, .unset, .unset, .unset, .unset] [(.int in2)])) target → Steps p.tables e below (s₁.setTop (mkF m 160 #[.val (.int p0), .val (.int p1), .val (.int p2), .val (.int p3), .val (.int p4), .val (.int r0), .val (.int r1), .val (.int r2), .val (.double u0), .second, .val (.double u1), .second, .val (.double u2), .second, .val (.int fr), .val (.int tt), .val (.double fa), .second, .val (.int a1), .val (.int i1), .val (.double w1), .second, .val (.int a2), .val (.int i2), .val (.double w2), .second, .val (.int in0), .val (.int in1), .unset, .unset, .unset, .unset, .unset, .unset, .unset, .unset, .unset, .unset, .unset, .unset, .unset, .unset, .unset, .unset] [(.int (2 : Int32)), (.int fr)])) target := by
    intro target kt
    by_cases hq : (2 : Int32) < fr
    · rw [← ((if_pos hq).symm.trans hj_in2)] at kt
      show Steps p.tables e below (s₁.setTop (mkF m 160 #[.val (.int p0), .val (.int p1), .val (.int p2), .val (.int p3), .val (.int p4), .val (.int r0), .val (.int r1), .val (.int r2), .val (.double u0), .second, .val (.double u1), .second, .val (.double u2), .second, .val (.int fr), .val (.int tt), .val (.double fa), .second, .val (.int a1), .val (.int i1), .val (.double w1), .second, .val (.int a2), .val (.int i2), .val (.double w2), .second, .val (.int in0), .val (.int in1), .unset, .unset, .unset, .unset, .unset, .unset, .unset, .unset, .unset, .unset, .unset, .unset, .unset, .unset, .unset, .unset] [(.int (2 : Int32)), (.int fr)])) _
      refine XS.icmpYes X0.here hx rfl (pc0 := 160) (pc' := 173) rfl (hb hby at_160) rfl (tlt hq).2.2.1 (by decide) (by decide) ?_
      refine XS.iconst X0.here hx rfl (hb hby at_173) ?_
      show Steps p.tables e below (s₁.setTop (mkF m 174 #[.val (.int p0), .val (.int p1), .val (.int p2), .val (.int p3), .val (.int p4), .val (.int r0), .val (.int r1), .val (.int r2), .val (.double u0), .second, .val (.double u1), .second, .val (.double u2), .second, .val (.int fr), .val (.int tt), .val (.double fa), .second, .val (.int a1), .val (.int i1), .val (.double w1), .second, .val (.int a2), .val (.int i2), .val (.double w2), .second, .val (.int in0), .val (.int in1), .unset, .unset, .unset, .unset, .unset, .unset, .unset, .unset, .unset, .unset, .unset, .unset, .unset, .unset, .unset, .unset] [(.int (0 : Int32))])) _
      exact kt
    · rw [← ((if_neg hq).symm.trans hj_in2)] at kt
      show Steps p.tables e below (s₁.setTop (mkF m 160 #[.val (.int p0), .val (.int p1), .val (.int p2), .val (.int p3), .val (.int p4), .val (.int r0), .val (.int r1), .val (.int r2), .val (.double u0), .second, .val (.double u1), .second, .val (.double u2), .second, .val (.int fr), .val (.int tt), .val (.double fa), .second, .val (.int a1), .val (.int i1), .val (.double w1), .second, .val (.int a2), .val (.int i2), .val (.double w2), .second, .val (.int in0), .val (.int in1), .unset, .unset, .unset, .unset, .unset, .unset, .unset, .unset, .unset, .unset, .unset, .unset, .unset, .unset, .unset, .unset] [(.int (2 : Int32)), (.int fr)])) _
      refine XS.icmpNo X0.here hx rfl (hb hby at_160) rfl (flt hq).2.2.1 ?_
      show Steps p.tables e below (s₁.setTop (mkF m 163 #[.val (.int p0), .val (.int p1), .val (.int p2), .val (.int p3), .val (.int p4), .val (.int r0), .val (.int r1), .val (.int r2), .val (.double u0), .second, .val (.double u1), .second, .val (.double u2), .second, .val (.int fr), .val (.int tt), .val (.double fa), .second, .val (.int a1), .val (.int i1), .val (.double w1), .second, .val (.int a2), .val (.int i2), .val (.double w2), .second, .val (.int in0), .val (.int in1), .unset, .unset, .unset, .unset, .unset, .unset, .unset, .unset, .unset, .unset, .unset, .unset, .unset, .unset, .unset, .unset] [])) _
      refine XS.iconst X0.here hx rfl (hb hby at_163) ?_
      refine XS.iload X0.here hx rfl (hb hby at_164) rfl ?_
      show Steps p.tables e below (s₁.setTop (mkF m 166 #[.val (.int p0), .val (.int p1), .val (.int p2), .val (.int p3), .val (.int p4), .val (.int r0), .val (.int r1), .val (.int r2), .val (.double u0), .second, .val (.double u1), .second, .val (.double u2), .second, .val (.int fr), .val (.int tt), .val (.double fa), .second, .val (.int a1), .val (.int i1), .val (.double w1), .second, .val (.int a2), .val (.int i2), .val (.double w2), .second, .val (.int in0), .val (.int in1), .unset, .unset, .unset, .unset, .unset, .unset, .unset, .unset, .unset, .unset, .unset, .unset, .unset, .unset, .unset, .unset] [(.int tt), (.int (2 : Int32))])) _
      refine jn7 _ ?_
      show Steps p.tables e below (s₁.setTop (mkF m 174 #[.val (.int p0), .val (.int p1), .val (.int p2), .val (.int p3), .val (.int p4), .val (.int r0), .val (.int r1), .val (.int r2), .val (.double u0), .second, .val (.double u1), .second, .val (.double u2), .second, .val (.int fr), .val (.int tt), .val (.double fa), .second, .val (.int a1), .val (.int i1), .val (.double w1), .second, .val (.int a2), .val (.int i2), .val (.double w2), .second, .val (.int in0), .val (.int in1), .unset, .unset, .unset, .unset, .unset, .unset, .unset, .unset, .unset, .unset, .unset, .unset, .unset, .unset, .unset, .unset] [(.int jz2)])) _
      exact kt
  obtain ⟨T9, h9, k9, X9, e9, E9, A9, st9⟩ := newP X0 hx hZ (hw _ (List.mem_of_getElem? (i := 0) rfl)) e0 (g := (mkF m 177 #[.val (.int p0), .val (.int p1), .val (.int p2), .val (.int p3), .val (.int p4), .val (.int r0), .val (.int r1), .val (.int r2), .val (.double u0), .second, .val (.double u1), .second, .val (.double u2), .second, .val (.int fr), .val (.int tt), .val (.double fa), .second, .val (.int a1), .val (.int i1), .val (.double w1), .second, .val (.int a2), .val (.int i2), .val (.double w2), .second, .val (.int in0), .val (.int in1), .val (.int in2), .unset, .unset, .unset, .unset, .unset, .unset, .unset, .unset, .unset, .unset, .unset, .unset, .unset, .unset, .unset] [(.int (3 : Int32))])) rfl (hb hby at_177) rfl (by decide) (cap := 3) (by decide) (by decide) (by decide) (by decide)
  obtain ⟨b9, g9⟩ : ∃ z, z = h0.size := ⟨_, rfl⟩
  rw [← g9] at A9 st9
  have g_b9 : n0 ≤ b9 := Nat.le_trans Z0 (Nat.le_of_eq g9.symm)
  have sz_b9 : h0.size ≤ b9 := Nat.le_trans (Keep.refl h0 []).1 (Nat.le_of_eq g9.symm)
  have K9 : Keep h0 h9 [] := (Keep.refl h0 []).ext E9
  have Zs9 := Nat.le_trans Z0 E9.1
  have V9 : Arv Z h9 b9 k9 .int (3 : Int32) [(.int (0 : Int32)), (.int (0 : Int32)), (.int (0 : Int32))] (.int (0 : Int32)) := (Arv.new A9 (by decide)).pad (pad_rep [] (.int (0 : Int32)) 3)
  obtain ⟨cq10, Arq10, qq10, Sq10, Nq10, Hq10, Gq10⟩ := id V9
  obtain ⟨T11, h11, X11, e11, W11, st11⟩ := stI X9 hx hZ e9 Arq10 (j := (0 : Int32)) (inb_of Sq10 ⟨by decide, by decide⟩) (g := (mkF m 183 #[.val (.int p0), .val (.int p1), .val (.int p2), .val (.int p3), .val (.int p4), .val (.int r0), .val (.int r1), .val (.int r2), .val (.double u0), .second, .val (.double u1), .second, .val (.double u2), .second, .val (.int fr), .val (.int tt), .val (.double fa), .second, .val (.int a1), .val (.int i1), .val (.double w1), .second, .val (.int a2), .val (.int i2), .val (.double w2), .second, .val (.int in0), .val (.int in1), .val (.int in2), .unset, .unset, .unset, .unset, .unset, .unset, .unset, .unset, .unset, .unset, .unset, .unset, .unset, .unset, .unset] [(.int r0), (.int (0 : Int32)), (.ref b9), (.ref b9)])) rfl rfl (hb hby at_183)
  have K11 : Keep h0 h11 [] := K9.wr W11 (Or.inr sz_b9)
  have Zs11 := Nat.le_trans Zs9 (Keep.of_wr W11).1
  have N11 := Fr.snoc X11 N0 g_b9
  have f12 : Arv Z h11 b9 k9 .int (3 : Int32) [(.int r0), (.int (0 : Int32)), (.int (0 : Int32))] (.int (0 : Int32)) := Arv.set Arq10 qq10 Sq10 Nq10 Hq10 Gq10 rfl W11 0 rfl (Nat.le_of_ble_eq_true rfl)
  obtain ⟨cq13, Arq13, qq13, Sq13, Nq13, Hq13, Gq13⟩ := id f12
  obtain ⟨T14, h14, X14, e14, W14, st14⟩ := stI X11 hx hZ e11 Arq13 (j := (1 : Int32)) (inb_of Sq13 ⟨by decide, by decide⟩) (g := (mkF m 188 #[.val (.int p0), .val (.int p1), .val (.int p2), .val (.int p3), .val (.int p4), .val (.int r0), .val (.int r1), .val (.int r2), .val (.double u0), .second, .val (.double u1), .second, .val (.double u2), .second, .val (.int fr), .val (.int tt), .val (.double fa), .second, .val (.int a1), .val (.int i1), .val (.double w1), .second, .val (.int a2), .val (.int i2), .val (.double w2), .second, .val (.int in0), .val (.int in1), .val (.int in2), .unset, .unset, .unset, .unset, .unset, .unset, .unset, .unset, .unset, .unset, .unset, .unset, .unset, .unset, .unset] [(.int r1), (.int (1 : Int32)), (.ref b9), (.ref b9)])) rfl rfl (hb hby at_188)
  have K14 : Keep h0 h14 [] := K11.wr W14 (Or.inr sz_b9)
  have Zs14 := Nat.le_trans Zs11 (Keep.of_wr W14).1
  have N14 := Fr.snoc X14 N11 g_b9
  have f15 : Arv Z h14 b9 k9 .int (3 : Int32) [(.int r0), (.int r1), (.int (0 : Int32))] (.int (0 : Int32)) := Arv.set Arq13 qq13 Sq13 Nq13 Hq13 Gq13 rfl W14 1 rfl (Nat.le_of_ble_eq_true rfl)
  obtain ⟨cq16, Arq16, qq16, Sq16, Nq16, Hq16, Gq16⟩ := id f15
  obtain ⟨T17, h17, X17, e17, W17, st17⟩ := stI X14 hx hZ e14 Arq16 (j := (2 : Int32)) (inb_of Sq16 ⟨by decide, by decide⟩) (g := (mkF m 193 #[.val (.int p0), .val (.int p1), .val (.int p2), .val (.int p3), .val (.int p4), .val (.int r0), .val (.int r1), .val (.int r2), .val (.double u0), .second, .val (.double u1), .second, .val (.double u2), .second, .val (.int fr), .val (.int tt), .val (.double fa), .second, .val (.int a1), .val (.int i1), .val (.double w1), .second, .val (.int a2), .val (.int i2), .val (.double w2), .second, .val (.int in0), .val (.int in1), .val (.int in2), .unset, .unset, .unset, .unset, .unset, .unset, .unset, .unset, .unset, .unset, .unset, .unset, .unset, .unset, .unset] [(.int r2), (.int (2 : Int32)), (.ref b9), (.ref b9)])) rfl rfl (hb hby at_193)
  have K17 : Keep h0 h17 [] := K14.wr W17 (Or.inr sz_b9)
  have Zs17 := Nat.le_trans Zs14 (Keep.of_wr W17).1
  have N17 := Fr.snoc X17 N14 g_b9
  have f18 : Arv Z h17 b9 k9 .int (3 : Int32) [(.int r0), (.int r1), (.int r2)] (.int (0 : Int32)) := Arv.set Arq16 qq16 Sq16 Nq16 Hq16 Gq16 rfl W17 2 rfl (Nat.le_of_ble_eq_true rfl)
  obtain ⟨T19, h19, k19, X19, e19, E19, A19, st19⟩ := newP X17 hx hZ (hw _ (List.mem_of_getElem? (i := 1) rfl)) e17 (g := (mkF m 197 #[.val (.int p0), .val (.int p1), .val (.int p2), .val (.int p3), .val (.int p4), .val (.int r0), .val (.int r1), .val (.int r2), .val (.double u0), .second, .val (.double u1), .second, .val (.double u2), .second, .val (.int fr), .val (.int tt), .val (.double fa), .second, .val (.int a1), .val (.int i1), .val (.double w1), .second, .val (.int a2), .val (.int i2), .val (.double w2), .second, .val (.int in0), .val (.int in1), .val (.int in2), .val (.ref b9), .unset, .unset, .unset, .unset, .unset, .unset, .unset, .unset, .unset, .unset, .unset, .unset, .unset, .unset] [(.int (3 : Int32))])) rfl (hb hby at_197) rfl (by decide) (cap := 3) (by decide) (by decide) (by decide) (by decide)
  obtain ⟨b19, g19⟩ : ∃ z, z = h17.size := ⟨_, rfl⟩
  rw [← g19] at A19 st19
  have ne_b9_b19 : b9 ≠ b19 := Nat.ne_of_lt (Nat.lt_of_lt_of_le f18.lt (Nat.le_of_eq g19.symm))
  have g_b19 : n0 ≤ b19 := Nat.le_trans Zs17 (Nat.le_of_eq g19.symm)
  have sz_b19 : h0.size ≤ b19 := Nat.le_trans K17.1 (Nat.le_of_eq g19.symm)
  have f20 := f18.ext E19
  have K19 : Keep h0 h19 [] := K17.ext E19
  have Zs19 := Nat.le_trans Zs17 E19.1
  have V19 : Arv Z h19 b19 k19 .double (3 : Int32) [(.double (0 : UInt64)), (.double (0 : UInt64)), (.double (0 : UInt64))] (.double (0 : UInt64)) := (Arv.new A19 (by decide)).pad (pad_rep [] (.double (0 : UInt64)) 3)
  obtain ⟨cq21, Arq21, qq21, Sq21, Nq21, Hq21, Gq21⟩ := id V19
  obtain ⟨T22, h22, X22, e22, W22, st22⟩ := stD X19 hx hZ e19 Arq21 (j := (0 : Int32)) (inb_of Sq21 ⟨by decide, by decide⟩) (g := (mkF m 203 #[.val (.int p0), .val (.int p1), .val (.int p2), .val (.int p3), .val (.int p4), .val (.int r0), .val (.int r1), .val (.int r2), .val (.double u0), .second, .val (.double u1), .second, .val (.double u2), .second, .val (.int fr), .val (.int tt), .val (.double fa), .second, .val (.int a1), .val (.int i1), .val (.double w1), .second, .val (.int a2), .val (.int i2), .val (.double w2), .second, .val (.int in0), .val (.int in1), .val (.int in2), .val (.ref b9), .unset, .unset, .unset, .unset, .unset, .unset, .unset, .unset, .unset, .unset, .unset, .unset, .unset, .unset] [(.double u0), (.int (0 : Int32)), (.ref b19), (.ref b19)])) rfl rfl (hb hby at_203)
  have f23 := f20.other W22 ne_b9_b19
  have K22 : Keep h0 h22 [] := K19.wr W22 (Or.inr sz_b19)
  have Zs22 := Nat.le_trans Zs19 (Keep.of_wr W22).1
  have N22 := Fr.snoc X22 N17 g_b19
  have f24 : Arv Z h22 b19 k19 .double (3 : Int32) [(.double u0), (.double (0 : UInt64)), (.double (0 : UInt64))] (.double (0 : UInt64)) := Arv.set Arq21 qq21 Sq21 Nq21 Hq21 Gq21 rfl W22 0 rfl (Nat.le_of_ble_eq_true rfl)
  obtain ⟨cq25, Arq25, qq25, Sq25, Nq25, Hq25, Gq25⟩ := id f24
  obtain ⟨T26, h26, X26, e26, W26, st26⟩ := stD X22 hx hZ e22 Arq25 (j := (1 : Int32)) (inb_of Sq25 ⟨by decide, by decide⟩) (g := (mkF m 208 #[.val (.int p0), .val (.int p1), .val (.int p2), .val (.int p3), .val (.int p4), .val (.int r0), .val (.int r1), .val (.int r2), .val (.double u0), .second, .val (.double u1), .second, .val (.double u2), .second, .val (.int fr), .val (.int tt), .val (.double fa), .second, .val (.int a1), .val (.int i1), .val (.double w1), .second, .val (.int a2), .val (.int i2), .val (.double w2), .second, .val (.int in0), .val (.int in1), .val (.int in2), .val (.ref b9), .unset, .unset, .unset, .unset, .unset, .unset, .unset, .unset, .unset, .unset, .unset, .unset, .unset, .unset] [(.double u1), (.int (1 : Int32)), (.ref b19), (.ref b19)])) rfl rfl (hb hby at_208)
  have f27 := f23.other W26 ne_b9_b19
  have K26 : Keep h0 h26 [] := K22.wr W26 (Or.inr sz_b19)
  have Zs26 := Nat.le_trans Zs22 (Keep.of_wr W26).1
  have N26 := Fr.snoc X26 N22 g_b19
  have f28 : Arv Z h26 b19 k19 .double (3 : Int32) [(.double u0), (.double u1), (.double (0 : UInt64))] (.double (0 : UInt64)) := Arv.set Arq25 qq25 Sq25 Nq25 Hq25 Gq25 rfl W26 1 rfl (Nat.le_of_ble_eq_true rfl)
  obtain ⟨cq29, Arq29, qq29, Sq29, Nq29, Hq29, Gq29⟩ := id f28
  obtain ⟨T30, h30, X30, e30, W30, st30⟩ := stD X26 hx hZ e26 Arq29 (j := (2 : Int32)) (inb_of Sq29 ⟨by decide, by decide⟩) (g := (mkF m 213 #[.val (.int p0), .val (.int p1), .val (.int p2), .val (.int p3), .val (.int p4), .val (.int r0), .val (.int r1), .val (.int r2), .val (.double u0), .second, .val (.double u1), .second, .val (.double u2), .second, .val (.int fr), .val (.int tt), .val (.double fa), .second, .val (.int a1), .val (.int i1), .val (.double w1), .second, .val (.int a2), .val (.int i2), .val (.double w2), .second, .val (.int in0), .val (.int in1), .val (.int in2), .val (.ref b9), .unset, .unset, .unset, .unset, .unset, .unset, .unset, .unset, .unset, .unset, .unset, .unset, .unset, .unset] [(.double u2), (.int (2 : Int32)), (.ref b19), (.ref b19)])) rfl rfl (hb hby at_213)
  have f31 := f27.other W30 ne_b9_b19
  have K30 : Keep h0 h30 [] := K26.wr W30 (Or.inr sz_b19)
  have Zs30 := Nat.le_trans Zs26 (Keep.of_wr W30).1
  have N30 := Fr.snoc X30 N26 g_b19
  have f32 : Arv Z h30 b19 k19 .double (3 : Int32) [(.double u0), (.double u1), (.double u2)] (.double (0 : UInt64)) := Arv.set Arq29 qq29 Sq29 Nq29 Hq29 Gq29 rfl W30 2 rfl (Nat.le_of_ble_eq_true rfl)
  obtain ⟨T33, h33, k33, X33, e33, E33, A33, st33⟩ := newP X30 hx hZ (hw _ (List.mem_of_getElem? (i := 2) rfl)) e30 (g := (mkF m 217 #[.val (.int p0), .val (.int p1), .val (.int p2), .val (.int p3), .val (.int p4), .val (.int r0), .val (.int r1), .val (.int r2), .val (.double u0), .second, .val (.double u1), .second, .val (.double u2), .second, .val (.int fr), .val (.int tt), .val (.double fa), .second, .val (.int a1), .val (.int i1), .val (.double w1), .second, .val (.int a2), .val (.int i2), .val (.double w2), .second, .val (.int in0), .val (.int in1), .val (.int in2), .val (.ref b9), .val (.ref b19), .unset, .unset, .unset, .unset, .unset, .unset, .unset, .unset, .unset, .unset, .unset, .unset, .unset] [(.int (2 : Int32))])) rfl (hb hby at_217) rfl (by decide) (cap := 2) (by decide) (by decide) (by decide) (by decide)
  obtain ⟨b33, g33⟩ : ∃ z, z = h30.size := ⟨_, rfl⟩
  rw [← g33] at A33 st33
  have ne_b9_b33 : b9 ≠ b33 := Nat.ne_of_lt (Nat.lt_of_lt_of_le f31.lt (Nat.le_of_eq g33.symm))
  have ne_b19_b33 : b19 ≠ b33 := Nat.ne_of_lt (Nat.lt_of_lt_of_le f32.lt (Nat.le_of_eq g33.symm))
  have g_b33 : n0 ≤ b33 := Nat.le_trans Zs30 (Nat.le_of_eq g33.symm)
  have sz_b33 : h0.size ≤ b33 := Nat.le_trans K30.1 (Nat.le_of_eq g33.symm)
  have f34 := f31.ext E33
  have f35 := f32.ext E33
  have K33 : Keep h0 h33 [] := K30.ext E33
  have Zs33 := Nat.le_trans Zs30 E33.1
  have V33 : Arv Z h33 b33 k33 .boolean (2 : Int32) [(.int (0 : Int32)), (.int (0 : Int32))] (.int (0 : Int32)) := (Arv.new A33 (by decide)).pad (pad_rep [] (.int (0 : Int32)) 2)
  obtain ⟨cq36, Arq36, qq36, Sq36, Nq36, Hq36, Gq36⟩ := id V33
  obtain ⟨T37, h37, X37, e37, W37, st37⟩ := stZ X33 hx hZ e33 Arq36 (j := (0 : Int32)) (inb_of Sq36 ⟨by decide, by decide⟩) (g := (mkF m 223 #[.val (.int p0), .val (.int p1), .val (.int p2), .val (.int p3), .val (.int p4), .val (.int r0), .val (.int r1), .val (.int r2), .val (.double u0), .second, .val (.double u1), .second, .val (.double u2), .second, .val (.int fr), .val (.int tt), .val (.double fa), .second, .val (.int a1), .val (.int i1), .val (.double w1), .second, .val (.int a2), .val (.int i2), .val (.double w2), .second, .val (.int in0), .val (.int in1), .val (.int in2), .val (.ref b9), .val (.ref b19), .unset, .unset, .unset, .unset, .unset, .unset, .unset, .unset, .unset, .unset, .unset, .unset, .unset] [(.int a1), (.int (0 : Int32)), (.ref b33), (.ref b33)])) rfl rfl (hb hby at_223)
  have f38 := f34.other W37 ne_b9_b33
  have f39 := f35.other W37 ne_b19_b33
  have K37 : Keep h0 h37 [] := K33.wr W37 (Or.inr sz_b33)
  have Zs37 := Nat.le_trans Zs33 (Keep.of_wr W37).1
  have N37 := Fr.snoc X37 N30 g_b33
  rw [own_narZ hz223] at W37
  have f40 : Arv Z h37 b33 k33 .boolean (2 : Int32) [(.int a1), (.int (0 : Int32))] (.int (0 : Int32)) := Arv.set Arq36 qq36 Sq36 Nq36 Hq36 Gq36 (own_fitZ hz223) W37 0 rfl (Nat.le_of_ble_eq_true rfl)
  obtain ⟨cq41, Arq41, qq41, Sq41, Nq41, Hq41, Gq41⟩ := id f40
  obtain ⟨T42, h42, X42, e42, W42, st42⟩ := stZ X37 hx hZ e37 Arq41 (j := (1 : Int32)) (inb_of Sq41 ⟨by decide, by decide⟩) (g := (mkF m 228 #[.val (.int p0), .val (.int p1), .val (.int p2), .val (.int p3), .val (.int p4), .val (.int r0), .val (.int r1), .val (.int r2), .val (.double u0), .second, .val (.double u1), .second, .val (.double u2), .second, .val (.int fr), .val (.int tt), .val (.double fa), .second, .val (.int a1), .val (.int i1), .val (.double w1), .second, .val (.int a2), .val (.int i2), .val (.double w2), .second, .val (.int in0), .val (.int in1), .val (.int in2), .val (.ref b9), .val (.ref b19), .unset, .unset, .unset, .unset, .unset, .unset, .unset, .unset, .unset, .unset, .unset, .unset, .unset] [(.int a2), (.int (1 : Int32)), (.ref b33), (.ref b33)])) rfl rfl (hb hby at_228)
  have f43 := f38.other W42 ne_b9_b33
  have f44 := f39.other W42 ne_b19_b33
  have K42 : Keep h0 h42 [] := K37.wr W42 (Or.inr sz_b33)
  have Zs42 := Nat.le_trans Zs37 (Keep.of_wr W42).1
  have N42 := Fr.snoc X42 N37 g_b33
  rw [own_narZ hz228] at W42
  have f45 : Arv Z h42 b33 k33 .boolean (2 : Int32) [(.int a1), (.int a2)] (.int (0 : Int32)) := Arv.set Arq41 qq41 Sq41 Nq41 Hq41 Gq41 (own_fitZ hz228) W42 1 rfl (Nat.le_of_ble_eq_true rfl)
  obtain ⟨T46, h46, k46, X46, e46, E46, A46, st46⟩ := newP X42 hx hZ (hw _ (List.mem_of_getElem? (i := 0) rfl)) e42 (g := (mkF m 232 #[.val (.int p0), .val (.int p1), .val (.int p2), .val (.int p3), .val (.int p4), .val (.int r0), .val (.int r1), .val (.int r2), .val (.double u0), .second, .val (.double u1), .second, .val (.double u2), .second, .val (.int fr), .val (.int tt), .val (.double fa), .second, .val (.int a1), .val (.int i1), .val (.double w1), .second, .val (.int a2), .val (.int i2), .val (.double w2), .second, .val (.int in0), .val (.int in1), .val (.int in2), .val (.ref b9), .val (.ref b19), .val (.ref b33), .unset, .unset, .unset, .unset, .unset, .unset, .unset, .unset, .unset, .unset, .unset, .unset] [(.int (2 : Int32))])) rfl (hb hby at_232) rfl (by decide) (cap := 2) (by decide) (by decide) (by decide) (by decide)
  obtain ⟨b46, g46⟩ : ∃ z, z = h42.size := ⟨_, rfl⟩
  rw [← g46] at A46 st46
  have ne_b9_b46 : b9 ≠ b46 := Nat.ne_of_lt (Nat.lt_of_lt_of_le f43.lt (Nat.le_of_eq g46.symm))
  have ne_b19_b46 : b19 ≠ b46 := Nat.ne_of_lt (Nat.lt_of_lt_of_le f44.lt (Nat.le_of_eq g46.symm))
  have ne_b33_b46 : b33 ≠ b46 := Nat.ne_of_lt (Nat.lt_of_lt_of_le f45.lt (Nat.le_of_eq g46.symm))
  have g_b46 : n0 ≤ b46 := Nat.le_trans Zs42 (Nat.le_of_eq g46.symm)
  have sz_b46 : h0.size ≤ b46 := Nat.le_trans K42.1 (Nat.le_of_eq g46.symm)
  have f47 := f43.ext E46
  have f48 := f44.ext E46
  have f49 := f45.ext E46
  have K46 : Keep h0 h46 [] := K42.ext E46
  have Zs46 := Nat.le_trans Zs42 E46.1
  have V46 : Arv Z h46 b46 k46 .int (2 : Int32) [(.int (0 : Int32)), (.int (0 : Int32))] (.int (0 : Int32)) := (Arv.new A46 (by decide)).pad (pad_rep [] (.int (0 : Int32)) 2)
  obtain ⟨cq50, Arq50, qq50, Sq50, Nq50, Hq50, Gq50⟩ := id V46
  obtain ⟨T51, h51, X51, e51, W51, st51⟩ := stI X46 hx hZ e46 Arq50 (j := (0 : Int32)) (inb_of Sq50 ⟨by decide, by decide⟩) (g := (mkF m 238 #[.val (.int p0), .val (.int p1), .val (.int p2), .val (.int p3), .val (.int p4), .val (.int r0), .val (.int r1), .val (.int r2), .val (.double u0), .second, .val (.double u1), .second, .val (.double u2), .second, .val (.int fr), .val (.int tt), .val (.double fa), .second, .val (.int a1), .val (.int i1), .val (.double w1), .second, .val (.int a2), .val (.int i2), .val (.double w2), .second, .val (.int in0), .val (.int in1), .val (.int in2), .val (.ref b9), .val (.ref b19), .val (.ref b33), .unset, .unset, .unset, .unset, .unset, .unset, .unset, .unset, .unset, .unset, .unset, .unset] [(.int i1), (.int (0 : Int32)), (.ref b46), (.ref b46)])) rfl rfl (hb hby at_238)
  have f52 := f47.other W51 ne_b9_b46
  have f53 := f48.other W51 ne_b19_b46
  have f54 := f49.other W51 ne_b33_b46
  have K51 : Keep h0 h51 [] := K46.wr W51 (Or.inr sz_b46)
  have Zs51 := Nat.le_trans Zs46 (Keep.of_wr W51).1
  have N51 := Fr.snoc X51 N42 g_b46
  have f55 : Arv Z h51 b46 k46 .int (2 : Int32) [(.int i1), (.int (0 : Int32))] (.int (0 : Int32)) := Arv.set Arq50 qq50 Sq50 Nq50 Hq50 Gq50 rfl W51 0 rfl (Nat.le_of_ble_eq_true rfl)
  obtain ⟨cq56, Arq56, qq56, Sq56, Nq56, Hq56, Gq56⟩ := id f55
  obtain ⟨T57, h57, X57, e57, W57, st57⟩ := stI X51 hx hZ e51 Arq56 (j := (1 : Int32)) (inb_of Sq56 ⟨by decide, by decide⟩) (g := (mkF m 243 #[.val (.int p0), .val (.int p1), .val (.int p2), .val (.int p3), .val (.int p4), .val (.int r0), .val (.int r1), .val (.int r2), .val (.double u0), .second, .val (.double u1), .second, .val (.double u2), .second, .val (.int fr), .val (.int tt), .val (.double fa), .second, .val (.int a1), .val (.int i1), .val (.double w1), .second, .val (.int a2), .val (.int i2), .val (.double w2), .second, .val (.int in0), .val (.int in1), .val (.int in2), .val (.ref b9), .val (.ref b19), .val (.ref b33), .unset, .unset, .unset, .unset, .unset, .unset, .unset, .unset, .unset, .unset, .unset, .unset] [(.int i2), (.int (1 : Int32)), (.ref b46), (.ref b46)])) rfl rfl (hb hby at_243)
  have f58 := f52.other W57 ne_b9_b46
  have f59 := f53.other W57 ne_b19_b46
  have f60 := f54.other W57 ne_b33_b46
  have K57 : Keep h0 h57 [] := K51.wr W57 (Or.inr sz_b46)
  have Zs57 := Nat.le_trans Zs51 (Keep.of_wr W57).1
  have N57 := Fr.snoc X57 N51 g_b46
  have f61 : Arv Z h57 b46 k46 .int (2 : Int32) [(.int i1), (.int i2)] (.int (0 : Int32)) := Arv.set Arq56 qq56 Sq56 Nq56 Hq56 Gq56 rfl W57 1 rfl (Nat.le_of_ble_eq_true rfl)
  obtain ⟨T62, h62, k62, X62, e62, E62, A62, st62⟩ := newP X57 hx hZ (hw _ (List.mem_of_getElem? (i := 1) rfl)) e57 (g := (mkF m 247 #[.val (.int p0), .val (.int p1), .val (.int p2), .val (.int p3), .val (.int p4), .val (.int r0), .val (.int r1), .val (.int r2), .val (.double u0), .second, .val (.double u1), .second, .val (.double u2), .second, .val (.int fr), .val (.int tt), .val (.double fa), .second, .val (.int a1), .val (.int i1), .val (.double w1), .second, .val (.int a2), .val (.int i2), .val (.double w2), .second, .val (.int in0), .val (.int in1), .val (.int in2), .val (.ref b9), .val (.ref b19), .val (.ref b33), .val (.ref b46), .unset, .unset, .unset, .unset, .unset, .unset, .unset, .unset, .unset, .unset, .unset] [(.int (2 : Int32))])) rfl (hb hby at_247) rfl (by decide) (cap := 2) (by decide) (by decide) (by decide) (by decide)
  obtain ⟨b62, g62⟩ : ∃ z, z = h57.size := ⟨_, rfl⟩
  rw [← g62] at A62 st62
  have ne_b9_b62 : b9 ≠ b62 := Nat.ne_of_lt (Nat.lt_of_lt_of_le f58.lt (Nat.le_of_eq g62.symm))
  have ne_b19_b62 : b19 ≠ b62 := Nat.ne_of_lt (Nat.lt_of_lt_of_le f59.lt (Nat.le_of_eq g62.symm))
  have ne_b33_b62 : b33 ≠ b62 := Nat.ne_of_lt (Nat.lt_of_lt_of_le f60.lt (Nat.le_of_eq g62.symm))
  have ne_b46_b62 : b46 ≠ b62 := Nat.ne_of_lt (Nat.lt_of_lt_of_le f61.lt (Nat.le_of_eq g62.symm))
  have g_b62 : n0 ≤ b62 := Nat.le_trans Zs57 (Nat.le_of_eq g62.symm)
  have sz_b62 : h0.size ≤ b62 := Nat.le_trans K57.1 (Nat.le_of_eq g62.symm)
  have f63 := f58.ext E62
  have f64 := f59.ext E62
  have f65 := f60.ext E62
  have f66 := f61.ext E62
  have K62 : Keep h0 h62 [] := K57.ext E62
  have Zs62 := Nat.le_trans Zs57 E62.1
  have V62 : Arv Z h62 b62 k62 .double (2 : Int32) [(.double (0 : UInt64)), (.double (0 : UInt64))] (.double (0 : UInt64)) := (Arv.new A62 (by decide)).pad (pad_rep [] (.double (0 : UInt64)) 2)
  obtain ⟨cq67, Arq67, qq67, Sq67, Nq67, Hq67, Gq67⟩ := id V62
  obtain ⟨T68, h68, X68, e68, W68, st68⟩ := stD X62 hx hZ e62 Arq67 (j := (0 : Int32)) (inb_of Sq67 ⟨by decide, by decide⟩) (g := (mkF m 253 #[.val (.int p0), .val (.int p1), .val (.int p2), .val (.int p3), .val (.int p4), .val (.int r0), .val (.int r1), .val (.int r2), .val (.double u0), .second, .val (.double u1), .second, .val (.double u2), .second, .val (.int fr), .val (.int tt), .val (.double fa), .second, .val (.int a1), .val (.int i1), .val (.double w1), .second, .val (.int a2), .val (.int i2), .val (.double w2), .second, .val (.int in0), .val (.int in1), .val (.int in2), .val (.ref b9), .val (.ref b19), .val (.ref b33), .val (.ref b46), .unset, .unset, .unset, .unset, .unset, .unset, .unset, .unset, .unset, .unset, .unset] [(.double w1), (.int (0 : Int32)), (.ref b62), (.ref b62)])) rfl rfl (hb hby at_253)
  have f69 := f63.other W68 ne_b9_b62
  have f70 := f64.other W68 ne_b19_b62
  have f71 := f65.other W68 ne_b33_b62
  have f72 := f66.other W68 ne_b46_b62
  have K68 : Keep h0 h68 [] := K62.wr W68 (Or.inr sz_b62)
  have Zs68 := Nat.le_trans Zs62 (Keep.of_wr W68).1
  have N68 := Fr.snoc X68 N57 g_b62
  have f73 : Arv Z h68 b62 k62 .double (2 : Int32) [(.double w1), (.double (0 : UInt64))] (.double (0 : UInt64)) := Arv.set Arq67 qq67 Sq67 Nq67 Hq67 Gq67 rfl W68 0 rfl (Nat.le_of_ble_eq_true rfl)
  obtain ⟨cq74, Arq74, qq74, Sq74, Nq74, Hq74, Gq74⟩ := id f73
  obtain ⟨T75, h75, X75, e75, W75, st75⟩ := stD X68 hx hZ e68 Arq74 (j := (1 : Int32)) (inb_of Sq74 ⟨by decide, by decide⟩) (g := (mkF m 258 #[.val (.int p0), .val (.int p1), .val (.int p2), .val (.int p3), .val (.int p4), .val (.int r0), .val (.int r1), .val (.int r2), .val (.double u0), .second, .val (.double u1), .second, .val (.double u2), .second, .val (.int fr), .val (.int tt), .val (.double fa), .second, .val (.int a1), .val (.int i1), .val (.double w1), .second, .val (.int a2), .val (.int i2), .val (.double w2), .second, .val (.int in0), .val (.int in1), .val (.int in2), .val (.ref b9), .val (.ref b19), .val (.ref b33), .val (.ref b46), .unset, .unset, .unset, .unset, .unset, .unset, .unset, .unset, .unset, .unset, .unset] [(.double w2), (.int (1 : Int32)), (.ref b62), (.ref b62)])) rfl rfl (hb hby at_258)
  have f76 := f69.other W75 ne_b9_b62
  have f77 := f70.other W75 ne_b19_b62
  have f78 := f71.other W75 ne_b33_b62
  have f79 := f72.other W75 ne_b46_b62
  have K75 : Keep h0 h75 [] := K68.wr W75 (Or.inr sz_b62)
  have Zs75 := Nat.le_trans Zs68 (Keep.of_wr W75).1
  have N75 := Fr.snoc X75 N68 g_b62
  have f80 : Arv Z h75 b62 k62 .double (2 : Int32) [(.double w1), (.double w2)] (.double (0 : UInt64)) := Arv.set Arq74 qq74 Sq74 Nq74 Hq74 Gq74 rfl W75 1 rfl (Nat.le_of_ble_eq_true rfl)
  obtain ⟨T81, h81, k81, X81, e81, E81, A81, st81⟩ := newP X75 hx hZ (hw _ (List.mem_of_getElem? (i := 2) rfl)) e75 (g := (mkF m 262 #[.val (.int p0), .val (.int p1), .val (.int p2), .val (.int p3), .val (.int p4), .val (.int r0), .val (.int r1), .val (.int r2), .val (.double u0), .second, .val (.double u1), .second, .val (.double u2), .second, .val (.int fr), .val (.int tt), .val (.double fa), .second, .val (.int a1), .val (.int i1), .val (.double w1), .second, .val (.int a2), .val (.int i2), .val (.double w2), .second, .val (.int in0), .val (.int in1), .val (.int in2), .val (.ref b9), .val (.ref b19), .val (.ref b33), .val (.ref b46), .val (.ref b62), .unset, .unset, .unset, .unset, .unset, .unset, .unset, .unset, .unset, .unset] [(.int (3 : Int32))])) rfl (hb hby at_262) rfl (by decide) (cap := 3) (by decide) (by decide) (by decide) (by decide)
  obtain ⟨b81, g81⟩ : ∃ z, z = h75.size := ⟨_, rfl⟩
  rw [← g81] at A81 st81
  have ne_b9_b81 : b9 ≠ b81 := Nat.ne_of_lt (Nat.lt_of_lt_of_le f76.lt (Nat.le_of_eq g81.symm))
  have ne_b19_b81 : b19 ≠ b81 := Nat.ne_of_lt (Nat.lt_of_lt_of_le f77.lt (Nat.le_of_eq g81.symm))
  have ne_b33_b81 : b33 ≠ b81 := Nat.ne_of_lt (Nat.lt_of_lt_of_le f78.lt (Nat.le_of_eq g81.symm))
  have ne_b46_b81 : b46 ≠ b81 := Nat.ne_of_lt (Nat.lt_of_lt_of_le f79.lt (Nat.le_of_eq g81.symm))
  have ne_b62_b81 : b62 ≠ b81 := Nat.ne_of_lt (Nat.lt_of_lt_of_le f80.lt (Nat.le_of_eq g81.symm))
  have g_b81 : n0 ≤ b81 := Nat.le_trans Zs75 (Nat.le_of_eq g81.symm)
  have sz_b81 : h0.size ≤ b81 := Nat.le_trans K75.1 (Nat.le_of_eq g81.symm)
  have f82 := f76.ext E81
  have f83 := f77.ext E81
  have f84 := f78.ext E81
  have f85 := f79.ext E81
  have f86 := f80.ext E81
  have K81 : Keep h0 h81 [] := K75.ext E81
  have Zs81 := Nat.le_trans Zs75 E81.1
  have V81 : Arv Z h81 b81 k81 .boolean (3 : Int32) [(.int (0 : Int32)), (.int (0 : Int32)), (.int (0 : Int32))] (.int (0 : Int32)) := (Arv.new A81 (by decide)).pad (pad_rep [] (.int (0 : Int32)) 3)
  obtain ⟨cq87, Arq87, qq87, Sq87, Nq87, Hq87, Gq87⟩ := id V81
  obtain ⟨T88, h88, X88, e88, W88, st88⟩ := stZ X81 hx hZ e81 Arq87 (j := (0 : Int32)) (inb_of Sq87 ⟨by decide, by decide⟩) (g := (mkF m 268 #[.val (.int p0), .val (.int p1), .val (.int p2), .val (.int p3), .val (.int p4), .val (.int r0), .val (.int r1), .val (.int r2), .val (.double u0), .second, .val (.double u1), .second, .val (.double u2), .second, .val (.int fr), .val (.int tt), .val (.double fa), .second, .val (.int a1), .val (.int i1), .val (.double w1), .second, .val (.int a2), .val (.int i2), .val (.double w2), .second, .val (.int in0), .val (.int in1), .val (.int in2), .val (.ref b9), .val (.ref b19), .val (.ref b33), .val (.ref b46), .val (.ref b62), .unset, .unset, .unset, .unset, .unset, .unset, .unset, .unset, .unset, .unset] [(.int in0), (.int (0 : Int32)), (.ref b81), (.ref b81)])) rfl rfl (hb hby at_268)
  have f89 := f82.other W88 ne_b9_b81
  have f90 := f83.other W88 ne_b19_b81
  have f91 := f84.other W88 ne_b33_b81
  have f92 := f85.other W88 ne_b46_b81
  have f93 := f86.other W88 ne_b62_b81
  have K88 : Keep h0 h88 [] := K81.wr W88 (Or.inr sz_b81)
  have Zs88 := Nat.le_trans Zs81 (Keep.of_wr W88).1
  have N88 := Fr.snoc X88 N75 g_b81
  rw [own_narZ hz268] at W88
  have f94 : Arv Z h88 b81 k81 .boolean (3 : Int32) [(.int in0), (.int (0 : Int32)), (.int (0 : Int32))] (.int (0 : Int32)) := Arv.set Arq87 qq87 Sq87 Nq87 Hq87 Gq87 (own_fitZ hz268) W88 0 rfl (Nat.le_of_ble_eq_true rfl)
  obtain ⟨cq95, Arq95, qq95, Sq95, Nq95, Hq95, Gq95⟩ := id f94
  obtain ⟨T96, h96, X96, e96, W96, st96⟩ := stZ X88 hx hZ e88 Arq95 (j := (1 : Int32)) (inb_of Sq95 ⟨by decide, by decide⟩) (g := (mkF m 273 #[.val (.int p0), .val (.int p1), .val (.int p2), .val (.int p3), .val (.int p4), .val (.int r0), .val (.int r1), .val (.int r2), .val (.double u0), .second, .val (.double u1), .second, .val (.double u2), .second, .val (.int fr), .val (.int tt), .val (.double fa), .second, .val (.int a1), .val (.int i1), .val (.double w1), .second, .val (.int a2), .val (.int i2), .val (.double w2), .second, .val (.int in0), .val (.int in1), .val (.int in2), .val (.ref b9), .val (.ref b19), .val (.ref b33), .val (.ref b46), .val (.ref b62), .unset, .unset, .unset, .unset, .unset, .unset, .unset, .unset, .unset, .unset] [(.int in1), (.int (1 : Int32)), (.ref b81), (.ref b81)])) rfl rfl (hb hby at_273)
  have f97 := f89.other W96 ne_b9_b81
  have f98 := f90.other W96 ne_b19_b81
  have f99 := f91.other W96 ne_b33_b81
  have f100 := f92.other W96 ne_b46_b81
  have f101 := f93.other W96 ne_b62_b81
  have K96 : Keep h0 h96 [] := K88.wr W96 (Or.inr sz_b81)
  have Zs96 := Nat.le_trans Zs88 (Keep.of_wr W96).1
  have N96 := Fr.snoc X96 N88 g_b81
  rw [own_narZ hz273] at W96
  have f102 : Arv Z h96 b81 k81 .boolean (3 : Int32) [(.int in0), (.int in1), (.int (0 : Int32))] (.int (0 : Int32)) := Arv.set Arq95 qq95 Sq95 Nq95 Hq95 Gq95 (own_fitZ hz273) W96 1 rfl (Nat.le_of_ble_eq_true rfl)
  obtain ⟨cq103, Arq103, qq103, Sq103, Nq103, Hq103, Gq103⟩ := id f102
  obtain ⟨T104, h104, X104, e104, W104, st104⟩ := stZ X96 hx hZ e96 Arq103 (j := (2 : Int32)) (inb_of Sq103 ⟨by decide, by decide⟩) (g := (mkF m 278 #[.val (.int p0), .val (.int p1), .val (.int p2), .val (.int p3), .val (.int p4), .val (.int r0), .val (.int r1), .val (.int r2), .val (.double u0), .second, .val (.double u1), .second, .val (.double u2), .second, .val (.int fr), .val (.int tt), .val (.double fa), .second, .val (.int a1), .val (.int i1), .val (.double w1), .second, .val (.int a2), .val (.int i2), .val (.double w2), .second, .val (.int in0), .val (.int in1), .val (.int in2), .val (.ref b9), .val (.ref b19), .val (.ref b33), .val (.ref b46), .val (.ref b62), .unset, .unset, .unset, .unset, .unset, .unset, .unset, .unset, .unset, .unset] [(.int in2), (.int (2 : Int32)), (.ref b81), (.ref b81)])) rfl rfl (hb hby at_278)
  have f105 := f97.other W104 ne_b9_b81
  have f106 := f98.other W104 ne_b19_b81
  have f107 := f99.other W104 ne_b33_b81
  have f108 := f100.other W104 ne_b46_b81
  have f109 := f101.other W104 ne_b62_b81
  have K104 : Keep h0 h104 [] := K96.wr W104 (Or.inr sz_b81)
  have Zs104 := Nat.le_trans Zs96 (Keep.of_wr W104).1
  have N104 := Fr.snoc X104 N96 g_b81
  rw [own_narZ hz278] at W104
  have f110 : Arv Z h104 b81 k81 .boolean (3 : Int32) [(.int in0), (.int in1), (.int in2)] (.int (0 : Int32)) := Arv.set Arq103 qq103 Sq103 Nq103 Hq103 Gq103 (own_fitZ hz278) W104 2 rfl (Nat.le_of_ble_eq_true rfl)
  obtain ⟨T111, h111, X111, e111, E111, A111, D111, -, st111⟩ := newO X104 hx hZ hown (hw _ (List.mem_of_getElem? (i := 3) rfl)) (hw _ (List.mem_of_getElem? (i := 4) rfl)) (hw _ (List.mem_of_getElem? (i := 5) rfl)) e104 (g := (mkF m 281 #[.val (.int p0), .val (.int p1), .val (.int p2), .val (.int p3), .val (.int p4), .val (.int r0), .val (.int r1), .val (.int r2), .val (.double u0), .second, .val (.double u1), .second, .val (.double u2), .second, .val (.int fr), .val (.int tt), .val (.double fa), .second, .val (.int a1), .val (.int i1), .val (.double w1), .second, .val (.int a2), .val (.int i2), .val (.double w2), .second, .val (.int in0), .val (.int in1), .val (.int in2), .val (.ref b9), .val (.ref b19), .val (.ref b33), .val (.ref b46), .val (.ref b62), .val (.ref b81), .unset, .unset, .unset, .unset, .unset, .unset, .unset, .unset, .unset] [])) rfl (hb hby at_281) (by decide) (by decide)
  obtain ⟨b111, g111⟩ : ∃ z, z = h104.size := ⟨_, rfl⟩
  rw [← g111] at A111 D111 st111
  have ne_b9_b111 : b9 ≠ b111 := Nat.ne_of_lt (Nat.lt_of_lt_of_le f105.lt (Nat.le_of_eq g111.symm))
  have ne_b19_b111 : b19 ≠ b111 := Nat.ne_of_lt (Nat.lt_of_lt_of_le f106.lt (Nat.le_of_eq g111.symm))
  have ne_b33_b111 : b33 ≠ b111 := Nat.ne_of_lt (Nat.lt_of_lt_of_le f107.lt (Nat.le_of_eq g111.symm))
  have ne_b46_b111 : b46 ≠ b111 := Nat.ne_of_lt (Nat.lt_of_lt_of_le f108.lt (Nat.le_of_eq g111.symm))
  have ne_b62_b111 : b62 ≠ b111 := Nat.ne_of_lt (Nat.lt_of_lt_of_le f109.lt (Nat.le_of_eq g111.symm))
  have ne_b81_b111 : b81 ≠ b111 := Nat.ne_of_lt (Nat.lt_of_lt_of_le f110.lt (Nat.le_of_eq g111.symm))
  have g_b111 : n0 ≤ b111 := Nat.le_trans Zs104 (Nat.le_of_eq g111.symm)
  have sz_b111 : h0.size ≤ b111 := Nat.le_trans K104.1 (Nat.le_of_eq g111.symm)
  have f112 := f105.ext E111
  have f113 := f106.ext E111
  have f114 := f107.ext E111
  have f115 := f108.ext E111
  have f116 := f109.ext E111
  have f117 := f110.ext E111
  have K111 : Keep h0 h111 [] := K104.ext E111
  have Zs111 := Nat.le_trans Zs104 E111.1
  have F111_values : Fld Z h111 b111 "com/example/leeway/leeway/lp/SparseColumn" "values" "[D" .null := D111 (Or.inr (hw _ (List.mem_of_getElem? (i := 13) rfl))) (ty := (.array .double)) (by decide)
  have F111_listed : Fld Z h111 b111 "com/example/leeway/leeway/lp/SparseColumn" "listed" "[Z" .null := D111 (Or.inr (hw _ (List.mem_of_getElem? (i := 15) rfl))) (ty := (.array .boolean)) (by decide)
  have F111_rows : Fld Z h111 b111 "com/example/leeway/leeway/lp/SparseColumn" "rows" "[I" .null := D111 (Or.inr (hw _ (List.mem_of_getElem? (i := 17) rfl))) (ty := (.array .int)) (by decide)
  have F111_count : Fld Z h111 b111 "com/example/leeway/leeway/lp/SparseColumn" "count" "I" (.int (0 : Int32)) := D111 (Or.inl (hw _ (List.mem_of_getElem? (i := 39) rfl))) (ty := .int) (by decide)
  obtain ⟨_, _, ⟨T118, L118, k118, n118⟩, -, X118, ⟨Lc118, hQ118, lq118, yq118, zq118⟩, st118⟩ := X111.specialBack hx (y := (⟨"com/example/leeway/leeway/lp/SparseColumn", "<init>", "(I)V"⟩ : MethodName)) rfl hown (mvT hZ (hw _ (List.mem_of_getElem? (i := 6) rfl))) (mvT hZ (hw _ (List.mem_of_getElem? (i := 7) rfl))) (mvT hZ (hw _ (List.mem_of_getElem? (i := 8) rfl))) (by decide) (backOf (W := 1) (sci l Z a0 hw [] b111 h111 n0 Zs111 g_b111 A111 F111_values F111_listed F111_rows F111_count) hZ (hw _ (List.mem_of_getElem? (i := 8) rfl)) (hw _ (List.mem_of_getElem? (i := 5) rfl)) (by decide) (by decide)) (g := (mkF m 286 #[.val (.int p0), .val (.int p1), .val (.int p2), .val (.int p3), .val (.int p4), .val (.int r0), .val (.int r1), .val (.int r2), .val (.double u0), .second, .val (.double u1), .second, .val (.double u2), .second, .val (.int fr), .val (.int tt), .val (.double fa), .second, .val (.int a1), .val (.int i1), .val (.double w1), .second, .val (.int a2), .val (.int i2), .val (.double w2), .second, .val (.int in0), .val (.int in1), .val (.int in2), .val (.ref b9), .val (.ref b19), .val (.ref b33), .val (.ref b46), .val (.ref b62), .val (.ref b81), .unset, .unset, .unset, .unset, .unset, .unset, .unset, .unset, .unset] [(.int (4 : Int32)), (.ref b111), (.ref b111)])) rfl (by rw [hml]; rfl) (Steps.refl _) (a := b111) (argsL := [(.int (4 : Int32))]) (rest := [(.ref b111)]) (lenOf pd_0 rfl) rfl (by show 2 * 0 + _ ≤ _; exact Nat.le_of_eq rfl) (hb hby at_286) (fun _ _ => ⟨rfl, e111, (by decide : 7 + 3 ≤ _), (by decide : 19 + 12 ≤ _)⟩)
  dsimp only [Pt.U, Pt.locs, Pt.cells, Pt.slots] at X118 lq118 yq118 zq118 st118 hQ118
  rw [lq118, yq118, zq118] at X118
  obtain ⟨b2_118, b15_118, b30_118, k2_118, k15_118, k30_118, rfl, N118q, K118q, r119, r120, r121, r122, r123, r124, f125, f126, f127, f128, f129, f130, f131, f132⟩ := hQ118
  have N118 := Fr.app N104 N118q
  have ne_b9_b2_118 : b9 ≠ b2_118 := Nat.ne_of_lt (Nat.lt_of_lt_of_le f112.lt r119)
  have ne_b19_b2_118 : b19 ≠ b2_118 := Nat.ne_of_lt (Nat.lt_of_lt_of_le f113.lt r119)
  have ne_b33_b2_118 : b33 ≠ b2_118 := Nat.ne_of_lt (Nat.lt_of_lt_of_le f114.lt r119)
  have ne_b46_b2_118 : b46 ≠ b2_118 := Nat.ne_of_lt (Nat.lt_of_lt_of_le f115.lt r119)
  have ne_b62_b2_118 : b62 ≠ b2_118 := Nat.ne_of_lt (Nat.lt_of_lt_of_le f116.lt r119)
  have ne_b81_b2_118 : b81 ≠ b2_118 := Nat.ne_of_lt (Nat.lt_of_lt_of_le f117.lt r119)
  have ne_b111_b2_118 : b111 ≠ b2_118 := Nat.ne_of_lt (Nat.lt_of_lt_of_le A111.lt r119)
  have g_b2_118 : n0 ≤ b2_118 := Nat.le_trans Zs111 r119
  have sz_b2_118 : h0.size ≤ b2_118 := Nat.le_trans K111.1 r119
  have ne_b9_b15_118 : b9 ≠ b15_118 := Nat.ne_of_lt (Nat.lt_of_lt_of_le f112.lt r120)
  have ne_b19_b15_118 : b19 ≠ b15_118 := Nat.ne_of_lt (Nat.lt_of_lt_of_le f113.lt r120)
  have ne_b33_b15_118 : b33 ≠ b15_118 := Nat.ne_of_lt (Nat.lt_of_lt_of_le f114.lt r120)
  have ne_b46_b15_118 : b46 ≠ b15_118 := Nat.ne_of_lt (Nat.lt_of_lt_of_le f115.lt r120)
  have ne_b62_b15_118 : b62 ≠ b15_118 := Nat.ne_of_lt (Nat.lt_of_lt_of_le f116.lt r120)
  have ne_b81_b15_118 : b81 ≠ b15_118 := Nat.ne_of_lt (Nat.lt_of_lt_of_le f117.lt r120)
  have ne_b111_b15_118 : b111 ≠ b15_118 := Nat.ne_of_lt (Nat.lt_of_lt_of_le A111.lt r120)
  have g_b15_118 : n0 ≤ b15_118 := Nat.le_trans Zs111 r120
  have sz_b15_118 : h0.size ≤ b15_118 := Nat.le_trans K111.1 r120
  have ne_b9_b30_118 : b9 ≠ b30_118 := Nat.ne_of_lt (Nat.lt_of_lt_of_le f112.lt r121)
  have ne_b19_b30_118 : b19 ≠ b30_118 := Nat.ne_of_lt (Nat.lt_of_lt_of_le f113.lt r121)
  have ne_b33_b30_118 : b33 ≠ b30_118 := Nat.ne_of_lt (Nat.lt_of_lt_of_le f114.lt r121)
  have ne_b46_b30_118 : b46 ≠ b30_118 := Nat.ne_of_lt (Nat.lt_of_lt_of_le f115.lt r121)
  have ne_b62_b30_118 : b62 ≠ b30_118 := Nat.ne_of_lt (Nat.lt_of_lt_of_le f116.lt r121)
  have ne_b81_b30_118 : b81 ≠ b30_118 := Nat.ne_of_lt (Nat.lt_of_lt_of_le f117.lt r121)
  have ne_b111_b30_118 : b111 ≠ b30_118 := Nat.ne_of_lt (Nat.lt_of_lt_of_le A111.lt r121)
  have g_b30_118 : n0 ≤ b30_118 := Nat.le_trans Zs111 r121
  have sz_b30_118 : h0.size ≤ b30_118 := Nat.le_trans K111.1 r121
  have f133 := f112.keep K118q (own_niS ne_b9_b111 own_ni0)
  have f134 := f113.keep K118q (own_niS ne_b19_b111 own_ni0)
  have f135 := f114.keep K118q (own_niS ne_b33_b111 own_ni0)
  have f136 := f115.keep K118q (own_niS ne_b46_b111 own_ni0)
  have f137 := f116.keep K118q (own_niS ne_b62_b111 own_ni0)
  have f138 := f117.keep K118q (own_niS ne_b81_b111 own_ni0)
  have f139 := A111.keep K118q
  have K118 : Keep h0 T118.heap [] := K111.trans K118q (own_allS (Or.inr sz_b111) own_all0)
  have Zs118 := Nat.le_trans Zs111 K118q.1
  obtain ⟨T140, L140, X140, N140, hQ140, st140⟩ := cnd1 l Z a0 hw b111 b2_118 b15_118 b30_118 k2_118 k15_118 k30_118 Jvm.OwnSC.S0 SA a1 i1 w1 (.val (.int p0) : Slot) (.val (.int p1) : Slot) (.val (.int p2) : Slot) (.val (.int p3) : Slot) (.val (.int p4) : Slot) (.val (.int r0) : Slot) (.val (.int r1) : Slot) (.val (.int r2) : Slot) (.val (.double u0) : Slot) (.second : Slot) (.val (.double u1) : Slot) (.second : Slot) (.val (.double u2) : Slot) (.second : Slot) (.val (.int fr) : Slot) (.val (.int tt) : Slot) (.val (.double fa) : Slot) (.second : Slot) (.val (.int a2) : Slot) (.val (.int i2) : Slot) (.val (.double w2) : Slot) (.second : Slot) (.val (.int in0) : Slot) (.val (.int in1) : Slot) (.val (.int in2) : Slot) (.val (.ref b9) : Slot) (.val (.ref b19) : Slot) (.val (.ref b33) : Slot) (.val (.ref b46) : Slot) (.val (.ref b62) : Slot) (.val (.ref b81) : Slot) (.unset : Slot) (.unset : Slot) (.unset : Slot) (.unset : Slot) (.unset : Slot) (.unset : Slot) (.unset : Slot) (.unset : Slot) T118.heap n0 Zs118 f126 f127 f128 f129 f125 f130 f131 f132 g_b111 g_b2_118 g_b15_118 g_b30_118 ne_b111_b2_118 ne_b111_b15_118 ne_b111_b30_118 r122 r123 r124 hcnd_291 hx hby hml hown hZ X118 rfl N118
  obtain ⟨K140q, f141, f142, f143, f144, f145, f146, f147, f148⟩ := hQ140
  have f149 := f133.keep K140q (own_niS ne_b9_b111 (own_niS ne_b9_b2_118 (own_niS ne_b9_b15_118 (own_niS ne_b9_b30_118 own_ni0))))
  have f150 := f134.keep K140q (own_niS ne_b19_b111 (own_niS ne_b19_b2_118 (own_niS ne_b19_b15_118 (own_niS ne_b19_b30_118 own_ni0))))
  have f151 := f135.keep K140q (own_niS ne_b33_b111 (own_niS ne_b33_b2_118 (own_niS ne_b33_b15_118 (own_niS ne_b33_b30_118 own_ni0))))
  have f152 := f136.keep K140q (own_niS ne_b46_b111 (own_niS ne_b46_b2_118 (own_niS ne_b46_b15_118 (own_niS ne_b46_b30_118 own_ni0))))
  have f153 := f137.keep K140q (own_niS ne_b62_b111 (own_niS ne_b62_b2_118 (own_niS ne_b62_b15_118 (own_niS ne_b62_b30_118 own_ni0))))
  have f154 := f138.keep K140q (own_niS ne_b81_b111 (own_niS ne_b81_b2_118 (own_niS ne_b81_b15_118 (own_niS ne_b81_b30_118 own_ni0))))
  have f155 := f125.keep K140q
  have K140 : Keep h0 T140.heap [] := K118.trans K140q (own_allS (Or.inr sz_b111) (own_allS (Or.inr sz_b2_118) (own_allS (Or.inr sz_b15_118) (own_allS (Or.inr sz_b30_118) own_all0))))
  have Zs140 := Nat.le_trans Zs118 K140q.1
  obtain ⟨T156, L156, X156, N156, hQ156, st156⟩ := cnd2 l Z a0 hw b111 b2_118 b15_118 b30_118 k2_118 k15_118 k30_118 SA SB a2 i2 w2 (.val (.int p0) : Slot) (.val (.int p1) : Slot) (.val (.int p2) : Slot) (.val (.int p3) : Slot) (.val (.int p4) : Slot) (.val (.int r0) : Slot) (.val (.int r1) : Slot) (.val (.int r2) : Slot) (.val (.double u0) : Slot) (.second : Slot) (.val (.double u1) : Slot) (.second : Slot) (.val (.double u2) : Slot) (.second : Slot) (.val (.int fr) : Slot) (.val (.int tt) : Slot) (.val (.double fa) : Slot) (.second : Slot) (.val (.int a1) : Slot) (.val (.int i1) : Slot) (.val (.double w1) : Slot) (.second : Slot) (.val (.int in0) : Slot) (.val (.int in1) : Slot) (.val (.int in2) : Slot) (.val (.ref b9) : Slot) (.val (.ref b19) : Slot) (.val (.ref b33) : Slot) (.val (.ref b46) : Slot) (.val (.ref b62) : Slot) (.val (.ref b81) : Slot) (.unset : Slot) (.unset : Slot) (.unset : Slot) (.unset : Slot) (.unset : Slot) (.unset : Slot) (.unset : Slot) (.unset : Slot) T140.heap n0 Zs140 f142 f143 f144 f145 f141 f146 f147 f148 g_b111 g_b2_118 g_b15_118 g_b30_118 ne_b111_b2_118 ne_b111_b15_118 ne_b111_b30_118 r122 r123 r124 hcnd_305 hx hby hml hown hZ X140 rfl N140
  obtain ⟨K156q, f157, f158, f159, f160, f161, f162, f163, f164⟩ := hQ156
  have f165 := f149.keep K156q (own_niS ne_b9_b111 (own_niS ne_b9_b2_118 (own_niS ne_b9_b15_118 (own_niS ne_b9_b30_118 own_ni0))))
  have f166 := f150.keep K156q (own_niS ne_b19_b111 (own_niS ne_b19_b2_118 (own_niS ne_b19_b15_118 (own_niS ne_b19_b30_118 own_ni0))))
  have f167 := f151.keep K156q (own_niS ne_b33_b111 (own_niS ne_b33_b2_118 (own_niS ne_b33_b15_118 (own_niS ne_b33_b30_118 own_ni0))))
  have f168 := f152.keep K156q (own_niS ne_b46_b111 (own_niS ne_b46_b2_118 (own_niS ne_b46_b15_118 (own_niS ne_b46_b30_118 own_ni0))))
  have f169 := f153.keep K156q (own_niS ne_b62_b111 (own_niS ne_b62_b2_118 (own_niS ne_b62_b15_118 (own_niS ne_b62_b30_118 own_ni0))))
  have f170 := f154.keep K156q (own_niS ne_b81_b111 (own_niS ne_b81_b2_118 (own_niS ne_b81_b15_118 (own_niS ne_b81_b30_118 own_ni0))))
  have f171 := f141.keep K156q
  have K156 : Keep h0 T156.heap [] := K140.trans K156q (own_allS (Or.inr sz_b111) (own_allS (Or.inr sz_b2_118) (own_allS (Or.inr sz_b15_118) (own_allS (Or.inr sz_b30_118) own_all0))))
  have Zs156 := Nat.le_trans Zs140 K156q.1
  obtain ⟨cq172, kq172, q172a, q172b, q172c⟩ := isOf hZ rfl f157
  obtain ⟨_, _, ⟨T172, L172, k172, n172⟩, -, X172, ⟨Lc172, hQ172, lq172, yq172, zq172⟩, st172⟩ := X156.virtualBack hx (y := (⟨"com/example/leeway/leeway/lp/SparseColumn", "subtract", "([I[DIID)V"⟩ : MethodName)) (z := (⟨"com/example/leeway/leeway/lp/SparseColumn", "subtract", "([I[DIID)V"⟩ : MethodName)) hown (mvT hZ (hw _ (List.mem_of_getElem? (i := 18) rfl))) (mvT hZ (hw _ (List.mem_of_getElem? (i := 19) rfl))) (notFace_of_selects (args := #[]) (mvT hZ (hw _ (List.mem_of_getElem? (i := 21) rfl)))) (mvT hZ (hw _ (List.mem_of_getElem? (i := 21) rfl))) (mvT hZ (hw _ (List.mem_of_getElem? (i := 20) rfl))) (by decide) (backOf (W := 0) (subM l Z a0 hw [] b111 b2_118 b15_118 b30_118 k2_118 k15_118 k30_118 b9 b19 k9 k19 ([(.int r0), (.int r1), (.int r2)] : List Value) ([(.double u0), (.double u1), (.double u2)] : List Value) SB SF fr tt fa T156.heap n0 Zs156 f158 f159 f160 f161 f157 f162 f163 f164 g_b111 g_b2_118 g_b15_118 g_b30_118 ne_b111_b2_118 ne_b111_b15_118 ne_b111_b30_118 r122 r123 r124 f165 f166 (Ne.symm ne_b9_b111) (Ne.symm ne_b19_b111) (Ne.symm ne_b9_b2_118) (Ne.symm ne_b19_b2_118) (Ne.symm ne_b9_b15_118) (Ne.symm ne_b19_b15_118) (Ne.symm ne_b9_b30_118) (Ne.symm ne_b19_b30_118) hsub_331) hZ (hw _ (List.mem_of_getElem? (i := 22) rfl)) (hw _ (List.mem_of_getElem? (i := 5) rfl)) (by decide) (by decide)) q172a q172c (g := (mkF m 331 #[.val (.int p0), .val (.int p1), .val (.int p2), .val (.int p3), .val (.int p4), .val (.int r0), .val (.int r1), .val (.int r2), .val (.double u0), .second, .val (.double u1), .second, .val (.double u2), .second, .val (.int fr), .val (.int tt), .val (.double fa), .second, .val (.int a1), .val (.int i1), .val (.double w1), .second, .val (.int a2), .val (.int i2), .val (.double w2), .second, .val (.int in0), .val (.int in1), .val (.int in2), .val (.ref b9), .val (.ref b19), .val (.ref b33), .val (.ref b46), .val (.ref b62), .val (.ref b81), .val (.ref b111), .unset, .unset, .unset, .unset, .unset, .unset, .unset, .unset] [(.double fa), (.int tt), (.int fr), (.ref b19), (.ref b9), (.ref b111)])) rfl (by rw [hml]; rfl) (Steps.refl _) (argsL := [(.ref b9), (.ref b19), (.int fr), (.int tt), (.double fa)]) (rest := []) (lenOf pd_2 rfl) rfl (by show 2 * 0 + _ ≤ _; exact Nat.le_of_eq rfl) (hb hby at_331) (fun _ _ => ⟨rfl, rfl, (by decide : 10 + 0 ≤ _), (by decide : 31 + 0 ≤ _)⟩)
  dsimp only [Pt.U, Pt.locs, Pt.cells, Pt.slots] at X172 lq172 yq172 zq172 st172 hQ172
  rw [lq172, yq172, zq172] at X172
  obtain ⟨rfl, N172q, K172q, f173, f174, f175, f176, f177, f178, f179, f180⟩ := hQ172
  have N172 := Fr.app N156 N172q
  have f181 := f165.keep K172q (own_niS ne_b9_b111 (own_niS ne_b9_b2_118 (own_niS ne_b9_b15_118 (own_niS ne_b9_b30_118 own_ni0))))
  have f182 := f166.keep K172q (own_niS ne_b19_b111 (own_niS ne_b19_b2_118 (own_niS ne_b19_b15_118 (own_niS ne_b19_b30_118 own_ni0))))
  have f183 := f167.keep K172q (own_niS ne_b33_b111 (own_niS ne_b33_b2_118 (own_niS ne_b33_b15_118 (own_niS ne_b33_b30_118 own_ni0))))
  have f184 := f168.keep K172q (own_niS ne_b46_b111 (own_niS ne_b46_b2_118 (own_niS ne_b46_b15_118 (own_niS ne_b46_b30_118 own_ni0))))
  have f185 := f169.keep K172q (own_niS ne_b62_b111 (own_niS ne_b62_b2_118 (own_niS ne_b62_b15_118 (own_niS ne_b62_b30_118 own_ni0))))
  have f186 := f170.keep K172q (own_niS ne_b81_b111 (own_niS ne_b81_b2_118 (own_niS ne_b81_b15_118 (own_niS ne_b81_b30_118 own_ni0))))
  have f187 := f157.keep K172q
  have K172 : Keep h0 T172.heap [] := K156.trans K172q (own_allS (Or.inr sz_b111) (own_allS (Or.inr sz_b2_118) (own_allS (Or.inr sz_b15_118) (own_allS (Or.inr sz_b30_118) own_all0))))
  have Zs172 := Nat.le_trans Zs156 K172q.1
  obtain ⟨cq188, kq188, q188a, q188b, q188c⟩ := isOf hZ rfl f173
  obtain ⟨_, _, ⟨T188, L188, k188, n188⟩, -, X188, ⟨Lc188, hQ188, lq188, yq188, zq188⟩, st188⟩ := X172.virtualBack hx (y := (⟨"com/example/leeway/leeway/lp/SparseColumn", "values", "()[D"⟩ : MethodName)) (z := (⟨"com/example/leeway/leeway/lp/SparseColumn", "values", "()[D"⟩ : MethodName)) hown (mvT hZ (hw _ (List.mem_of_getElem? (i := 23) rfl))) (mvT hZ (hw _ (List.mem_of_getElem? (i := 24) rfl))) (notFace_of_selects (args := #[]) (mvT hZ (hw _ (List.mem_of_getElem? (i := 26) rfl)))) (mvT hZ (hw _ (List.mem_of_getElem? (i := 26) rfl))) (mvT hZ (hw _ (List.mem_of_getElem? (i := 25) rfl))) (by decide) (backOf (W := 0) (gvs l Z a0 hw [] b111 b2_118 b15_118 b30_118 k2_118 k15_118 k30_118 SF T172.heap n0 Zs172 f174 f175 f176 f177 f173 f178 f179 f180) hZ (hw _ (List.mem_of_getElem? (i := 27) rfl)) (hw _ (List.mem_of_getElem? (i := 5) rfl)) (by decide) (by decide)) q188a q188c (g := (mkF m 336 #[.val (.int p0), .val (.int p1), .val (.int p2), .val (.int p3), .val (.int p4), .val (.int r0), .val (.int r1), .val (.int r2), .val (.double u0), .second, .val (.double u1), .second, .val (.double u2), .second, .val (.int fr), .val (.int tt), .val (.double fa), .second, .val (.int a1), .val (.int i1), .val (.double w1), .second, .val (.int a2), .val (.int i2), .val (.double w2), .second, .val (.int in0), .val (.int in1), .val (.int in2), .val (.ref b9), .val (.ref b19), .val (.ref b33), .val (.ref b46), .val (.ref b62), .val (.ref b81), .val (.ref b111), .unset, .unset, .unset, .unset, .unset, .unset, .unset, .unset] [(.ref b111)])) rfl (by rw [hml]; rfl) (Steps.refl _) (argsL := []) (rest := []) (lenOf pd_3 rfl) rfl (by show 2 * 0 + _ ≤ _; exact Nat.le_of_eq rfl) (hb hby at_336) (fun _ _ => ⟨rfl, rfl, (by decide : 10 + 0 ≤ _), (by decide : 31 + 0 ≤ _)⟩)
  dsimp only [Pt.U, Pt.locs, Pt.cells, Pt.slots] at X188 lq188 yq188 zq188 st188 hQ188
  rw [lq188, yq188, zq188] at X188
  obtain ⟨rfl, N188q, eh188⟩ := hQ188
  have N188 := Fr.app N172 N188q
  have e188 : T188.heap = T172.heap := eh188
  obtain ⟨cq189, kq189, q189a, q189b, q189c⟩ := isOf hZ e188 f173
  obtain ⟨_, _, ⟨T189, L189, k189, n189⟩, -, X189, ⟨Lc189, hQ189, lq189, yq189, zq189⟩, st189⟩ := X188.virtualBack hx (y := (⟨"com/example/leeway/leeway/lp/SparseColumn", "rows", "()[I"⟩ : MethodName)) (z := (⟨"com/example/leeway/leeway/lp/SparseColumn", "rows", "()[I"⟩ : MethodName)) hown (mvT hZ (hw _ (List.mem_of_getElem? (i := 28) rfl))) (mvT hZ (hw _ (List.mem_of_getElem? (i := 29) rfl))) (notFace_of_selects (args := #[]) (mvT hZ (hw _ (List.mem_of_getElem? (i := 31) rfl)))) (mvT hZ (hw _ (List.mem_of_getElem? (i := 31) rfl))) (mvT hZ (hw _ (List.mem_of_getElem? (i := 30) rfl))) (by decide) (backOf (W := 0) (grs l Z a0 hw [] b111 b2_118 b15_118 b30_118 k2_118 k15_118 k30_118 SF T172.heap n0 Zs172 f174 f175 f176 f177 f173 f178 f179 f180) hZ (hw _ (List.mem_of_getElem? (i := 32) rfl)) (hw _ (List.mem_of_getElem? (i := 5) rfl)) (by decide) (by decide)) q189a q189c (g := (mkF m 343 #[.val (.int p0), .val (.int p1), .val (.int p2), .val (.int p3), .val (.int p4), .val (.int r0), .val (.int r1), .val (.int r2), .val (.double u0), .second, .val (.double u1), .second, .val (.double u2), .second, .val (.int fr), .val (.int tt), .val (.double fa), .second, .val (.int a1), .val (.int i1), .val (.double w1), .second, .val (.int a2), .val (.int i2), .val (.double w2), .second, .val (.int in0), .val (.int in1), .val (.int in2), .val (.ref b9), .val (.ref b19), .val (.ref b33), .val (.ref b46), .val (.ref b62), .val (.ref b81), .val (.ref b111), .val (.ref b2_118), .unset, .unset, .unset, .unset, .unset, .unset, .unset] [(.ref b111)])) rfl (by rw [hml]; rfl) (Steps.refl _) (argsL := []) (rest := []) (lenOf pd_4 rfl) rfl (by show 2 * 0 + _ ≤ _; exact Nat.le_of_eq rfl) (hb hby at_343) (fun _ _ => ⟨rfl, e188, (by decide : 10 + 0 ≤ _), (by decide : 31 + 0 ≤ _)⟩)
  dsimp only [Pt.U, Pt.locs, Pt.cells, Pt.slots] at X189 lq189 yq189 zq189 st189 hQ189
  rw [lq189, yq189, zq189] at X189
  obtain ⟨rfl, N189q, eh189⟩ := hQ189
  have N189 := Fr.app N188 N189q
  have e189 : T189.heap = T172.heap := eh189
  obtain ⟨cq190, kq190, q190a, q190b, q190c⟩ := isOf hZ e189 f173
  obtain ⟨_, _, ⟨T190, L190, k190, n190⟩, -, X190, ⟨Lc190, hQ190, lq190, yq190, zq190⟩, st190⟩ := X189.virtualBack hx (y := (⟨"com/example/leeway/leeway/lp/SparseColumn", "count", "()I"⟩ : MethodName)) (z := (⟨"com/example/leeway/leeway/lp/SparseColumn", "count", "()I"⟩ : MethodName)) hown (mvT hZ (hw _ (List.mem_of_getElem? (i := 33) rfl))) (mvT hZ (hw _ (List.mem_of_getElem? (i := 34) rfl))) (notFace_of_selects (args := #[]) (mvT hZ (hw _ (List.mem_of_getElem? (i := 36) rfl)))) (mvT hZ (hw _ (List.mem_of_getElem? (i := 36) rfl))) (mvT hZ (hw _ (List.mem_of_getElem? (i := 35) rfl))) (by decide) (backOf (W := 0) (gct l Z a0 hw [] b111 b2_118 b15_118 b30_118 k2_118 k15_118 k30_118 SF T172.heap n0 Zs172 f174 f175 f176 f177 f173 f178 f179 f180) hZ (hw _ (List.mem_of_getElem? (i := 37) rfl)) (hw _ (List.mem_of_getElem? (i := 5) rfl)) (by decide) (by decide)) q190a q190c (g := (mkF m 350 #[.val (.int p0), .val (.int p1), .val (.int p2), .val (.int p3), .val (.int p4), .val (.int r0), .val (.int r1), .val (.int r2), .val (.double u0), .second, .val (.double u1), .second, .val (.double u2), .second, .val (.int fr), .val (.int tt), .val (.double fa), .second, .val (.int a1), .val (.int i1), .val (.double w1), .second, .val (.int a2), .val (.int i2), .val (.double w2), .second, .val (.int in0), .val (.int in1), .val (.int in2), .val (.ref b9), .val (.ref b19), .val (.ref b33), .val (.ref b46), .val (.ref b62), .val (.ref b81), .val (.ref b111), .val (.ref b2_118), .val (.ref b30_118), .unset, .unset, .unset, .unset, .unset, .unset] [(.ref b111)])) rfl (by rw [hml]; rfl) (Steps.refl _) (argsL := []) (rest := []) (lenOf pd_5 rfl) rfl (by show 2 * 0 + _ ≤ _; exact Nat.le_of_eq rfl) (hb hby at_350) (fun _ _ => ⟨rfl, e189, (by decide : 10 + 0 ≤ _), (by decide : 31 + 0 ≤ _)⟩)
  dsimp only [Pt.U, Pt.locs, Pt.cells, Pt.slots] at X190 lq190 yq190 zq190 st190 hQ190
  rw [lq190, yq190, zq190] at X190
  obtain ⟨rfl, N190q, eh190⟩ := hQ190
  have N190 := Fr.app N189 N190q
  have e190 : T190.heap = T172.heap := eh190
  have f191 := own_arvL (vs1 := [(.int qr0), (.int qr1), (.int qr2), (.int qr3)]) (hqs : (SF.2.1 : List Value) = [(.int qr0), (.int qr1), (.int qr2), (.int qr3)]) f180
  have f192 := own_arvL (vs1 := [(.double xr0), (.double xr1), (.double xr2), (.double xr3)]) (hxs : (SF.2.2.2 : List Value) = [(.double xr0), (.double xr1), (.double xr2), (.double xr3)]) f178
  obtain ⟨cq193, Arq193, -, Sq193, Nq193, -, -⟩ := id f192
  obtain ⟨cq194, Arq194, -, Sq194, Nq194, -, -⟩ := id f191
  obtain ⟨_, _, ⟨T195, L195, k195, n195⟩, -, X195, ⟨Lc195, hQ195, lq195, yq195, zq195⟩, st195⟩ := Jvm.LawKit.callS X190 hx (y := (⟨"com/example/leeway/leeway/lp/SparseColumnSubtractPinLaw", "listedExpected", "(I[Z[I[Z[I)Z"⟩ : MethodName)) hown (mvT hZ (hw _ (List.mem_of_getElem? (i := 40) rfl))) (mvT hZ (hw _ (List.mem_of_getElem? (i := 41) rfl))) (mvT hZ (hw _ (List.mem_of_getElem? (i := 42) rfl))) (mvT hZ (hw _ (List.mem_of_getElem? (i := 43) rfl))) (by decide) (backOf (W := 0) (leM l Z a0 hw [] (0 : Int32) b33 b46 b81 b9 k33 k46 k81 k9 a1 a2 i1 i2 in0 in1 in2 r0 r1 r2 lz0 T172.heap n0 Zs172 f183 f184 f186 f181 hlz_391) hZ (hw _ (List.mem_of_getElem? (i := 43) rfl)) (hw _ (List.mem_of_getElem? (i := 42) rfl)) (by decide) (by decide)) (g := (mkF m 391 #[.val (.int p0), .val (.int p1), .val (.int p2), .val (.int p3), .val (.int p4), .val (.int r0), .val (.int r1), .val (.int r2), .val (.double u0), .second, .val (.double u1), .second, .val (.double u2), .second, .val (.int fr), .val (.int tt), .val (.double fa), .second, .val (.int a1), .val (.int i1), .val (.double w1), .second, .val (.int a2), .val (.int i2), .val (.double w2), .second, .val (.int in0), .val (.int in1), .val (.int in2), .val (.ref b9), .val (.ref b19), .val (.ref b33), .val (.ref b46), .val (.ref b62), .val (.ref b81), .val (.ref b111), .val (.ref b2_118), .val (.ref b30_118), .val (.int SF.1), .unset, .unset, .unset, .unset, .unset] [(.ref b9), (.ref b81), (.ref b46), (.ref b33), (.int (0 : Int32))])) rfl (by rw [hml]; rfl) (argsL := [(.int (0 : Int32)), (.ref b33), (.ref b46), (.ref b81), (.ref b9)]) (rest := []) (lenOf pd_6 rfl) rfl (by show 2 * 0 + _ ≤ _; exact Nat.le_of_eq rfl) (hb hby at_391) (fun _ _ => ⟨rfl, e190, (by decide : 10 + 0 ≤ _), (by decide : 31 + 0 ≤ _)⟩)
  dsimp only [Pt.U, Pt.locs, Pt.cells, Pt.slots] at X195 lq195 yq195 zq195 st195 hQ195
  rw [lq195, yq195, zq195] at X195
  obtain ⟨rfl, N195q, eh195⟩ := hQ195
  have N195 := Fr.app N190 N195q
  have e195 : T195.heap = T172.heap := eh195
  obtain ⟨_, _, ⟨T196, L196, k196, n196⟩, -, X196, ⟨Lc196, hQ196, lq196, yq196, zq196⟩, st196⟩ := Jvm.LawKit.callS X195 hx (y := (⟨"com/example/leeway/leeway/lp/SparseColumnSubtractPinLaw", "listedExpected", "(I[Z[I[Z[I)Z"⟩ : MethodName)) hown (mvT hZ (hw _ (List.mem_of_getElem? (i := 40) rfl))) (mvT hZ (hw _ (List.mem_of_getElem? (i := 41) rfl))) (mvT hZ (hw _ (List.mem_of_getElem? (i := 42) rfl))) (mvT hZ (hw _ (List.mem_of_getElem? (i := 43) rfl))) (by decide) (backOf (W := 0) (leM l Z a0 hw [] (1 : Int32) b33 b46 b81 b9 k33 k46 k81 k9 a1 a2 i1 i2 in0 in1 in2 r0 r1 r2 lz1 T172.heap n0 Zs172 f183 f184 f186 f181 hlz_405) hZ (hw _ (List.mem_of_getElem? (i := 43) rfl)) (hw _ (List.mem_of_getElem? (i := 42) rfl)) (by decide) (by decide)) (g := (mkF m 405 #[.val (.int p0), .val (.int p1), .val (.int p2), .val (.int p3), .val (.int p4), .val (.int r0), .val (.int r1), .val (.int r2), .val (.double u0), .second, .val (.double u1), .second, .val (.double u2), .second, .val (.int fr), .val (.int tt), .val (.double fa), .second, .val (.int a1), .val (.int i1), .val (.double w1), .second, .val (.int a2), .val (.int i2), .val (.double w2), .second, .val (.int in0), .val (.int in1), .val (.int in2), .val (.ref b9), .val (.ref b19), .val (.ref b33), .val (.ref b46), .val (.ref b62), .val (.ref b81), .val (.ref b111), .val (.ref b2_118), .val (.ref b30_118), .val (.int SF.1), .val (.int lz0), .unset, .unset, .unset, .unset] [(.ref b9), (.ref b81), (.ref b46), (.ref b33), (.int (1 : Int32))])) rfl (by rw [hml]; rfl) (argsL := [(.int (1 : Int32)), (.ref b33), (.ref b46), (.ref b81), (.ref b9)]) (rest := []) (lenOf pd_6 rfl) rfl (by show 2 * 0 + _ ≤ _; exact Nat.le_of_eq rfl) (hb hby at_405) (fun _ _ => ⟨rfl, e195, (by decide : 10 + 0 ≤ _), (by decide : 31 + 0 ≤ _)⟩)
  dsimp only [Pt.U, Pt.locs, Pt.cells, Pt.slots] at X196 lq196 yq196 zq196 st196 hQ196
  rw [lq196, yq196, zq196] at X196
  obtain ⟨rfl, N196q, eh196⟩ := hQ196
  have N196 := Fr.app N195 N196q
  have e196 : T196.heap = T172.heap := eh196
  obtain ⟨_, _, ⟨T197, L197, k197, n197⟩, -, X197, ⟨Lc197, hQ197, lq197, yq197, zq197⟩, st197⟩ := Jvm.LawKit.callS X196 hx (y := (⟨"com/example/leeway/leeway/lp/SparseColumnSubtractPinLaw", "listedExpected", "(I[Z[I[Z[I)Z"⟩ : MethodName)) hown (mvT hZ (hw _ (List.mem_of_getElem? (i := 40) rfl))) (mvT hZ (hw _ (List.mem_of_getElem? (i := 41) rfl))) (mvT hZ (hw _ (List.mem_of_getElem? (i := 42) rfl))) (mvT hZ (hw _ (List.mem_of_getElem? (i := 43) rfl))) (by decide) (backOf (W := 0) (leM l Z a0 hw [] (2 : Int32) b33 b46 b81 b9 k33 k46 k81 k9 a1 a2 i1 i2 in0 in1 in2 r0 r1 r2 lz2 T172.heap n0 Zs172 f183 f184 f186 f181 hlz_419) hZ (hw _ (List.mem_of_getElem? (i := 43) rfl)) (hw _ (List.mem_of_getElem? (i := 42) rfl)) (by decide) (by decide)) (g := (mkF m 419 #[.val (.int p0), .val (.int p1), .val (.int p2), .val (.int p3), .val (.int p4), .val (.int r0), .val (.int r1), .val (.int r2), .val (.double u0), .second, .val (.double u1), .second, .val (.double u2), .second, .val (.int fr), .val (.int tt), .val (.double fa), .second, .val (.int a1), .val (.int i1), .val (.double w1), .second, .val (.int a2), .val (.int i2), .val (.double w2), .second, .val (.int in0), .val (.int in1), .val (.int in2), .val (.ref b9), .val (.ref b19), .val (.ref b33), .val (.ref b46), .val (.ref b62), .val (.ref b81), .val (.ref b111), .val (.ref b2_118), .val (.ref b30_118), .val (.int SF.1), .val (.int lz0), .val (.int lz1), .unset, .unset, .unset] [(.ref b9), (.ref b81), (.ref b46), (.ref b33), (.int (2 : Int32))])) rfl (by rw [hml]; rfl) (argsL := [(.int (2 : Int32)), (.ref b33), (.ref b46), (.ref b81), (.ref b9)]) (rest := []) (lenOf pd_6 rfl) rfl (by show 2 * 0 + _ ≤ _; exact Nat.le_of_eq rfl) (hb hby at_419) (fun _ _ => ⟨rfl, e196, (by decide : 10 + 0 ≤ _), (by decide : 31 + 0 ≤ _)⟩)
  dsimp only [Pt.U, Pt.locs, Pt.cells, Pt.slots] at X197 lq197 yq197 zq197 st197 hQ197
  rw [lq197, yq197, zq197] at X197
  obtain ⟨rfl, N197q, eh197⟩ := hQ197
  have N197 := Fr.app N196 N197q
  have e197 : T197.heap = T172.heap := eh197
  obtain ⟨_, _, ⟨T198, L198, k198, n198⟩, -, X198, ⟨Lc198, hQ198, lq198, yq198, zq198⟩, st198⟩ := Jvm.LawKit.callS X197 hx (y := (⟨"com/example/leeway/leeway/lp/SparseColumnSubtractPinLaw", "listedExpected", "(I[Z[I[Z[I)Z"⟩ : MethodName)) hown (mvT hZ (hw _ (List.mem_of_getElem? (i := 40) rfl))) (mvT hZ (hw _ (List.mem_of_getElem? (i := 41) rfl))) (mvT hZ (hw _ (List.mem_of_getElem? (i := 42) rfl))) (mvT hZ (hw _ (List.mem_of_getElem? (i := 43) rfl))) (by decide) (backOf (W := 0) (leM l Z a0 hw [] (3 : Int32) b33 b46 b81 b9 k33 k46 k81 k9 a1 a2 i1 i2 in0 in1 in2 r0 r1 r2 lz3 T172.heap n0 Zs172 f183 f184 f186 f181 hlz_433) hZ (hw _ (List.mem_of_getElem? (i := 43) rfl)) (hw _ (List.mem_of_getElem? (i := 42) rfl)) (by decide) (by decide)) (g := (mkF m 433 #[.val (.int p0), .val (.int p1), .val (.int p2), .val (.int p3), .val (.int p4), .val (.int r0), .val (.int r1), .val (.int r2), .val (.double u0), .second, .val (.double u1), .second, .val (.double u2), .second, .val (.int fr), .val (.int tt), .val (.double fa), .second, .val (.int a1), .val (.int i1), .val (.double w1), .second, .val (.int a2), .val (.int i2), .val (.double w2), .second, .val (.int in0), .val (.int in1), .val (.int in2), .val (.ref b9), .val (.ref b19), .val (.ref b33), .val (.ref b46), .val (.ref b62), .val (.ref b81), .val (.ref b111), .val (.ref b2_118), .val (.ref b30_118), .val (.int SF.1), .val (.int lz0), .val (.int lz1), .val (.int lz2), .unset, .unset] [(.ref b9), (.ref b81), (.ref b46), (.ref b33), (.int (3 : Int32))])) rfl (by rw [hml]; rfl) (argsL := [(.int (3 : Int32)), (.ref b33), (.ref b46), (.ref b81), (.ref b9)]) (rest := []) (lenOf pd_6 rfl) rfl (by show 2 * 0 + _ ≤ _; exact Nat.le_of_eq rfl) (hb hby at_433) (fun _ _ => ⟨rfl, e197, (by decide : 10 + 0 ≤ _), (by decide : 31 + 0 ≤ _)⟩)
  dsimp only [Pt.U, Pt.locs, Pt.cells, Pt.slots] at X198 lq198 yq198 zq198 st198 hQ198
  rw [lq198, yq198, zq198] at X198
  obtain ⟨rfl, N198q, eh198⟩ := hQ198
  have N198 := Fr.app N197 N198q
  have e198 : T198.heap = T172.heap := eh198
  have jn199 : ∀ target, Steps p.tables e below (T198.setTop (mkF m 448 #[.val (.int p0), .val (.int p1), .val (.int p2), .val (.int p3), .val (.int p4), .val (.int r0), .val (.int r1), .val (.int r2), .val (.double u0), .second, .val (.double u1), .second, .val (.double u2), .second, .val (.int fr), .val (.int tt), .val (.double fa), .second, .val (.int a1), .val (.int i1), .val (.double w1), .second, .val (.int a2), .val (.int i2), .val (.double w2), .second, .val (.int in0), .val (.int in1), .val (.int in2), .val (.ref b9), .val (.ref b19), .val (.ref b33), .val (.ref b46), .val (.ref b62), .val (.ref b81), .val (.ref b111), .val (.ref b2_118), .val (.ref b30_118), .val (.int SF.1), .val (.int lz0), .val (.int lz1), .val (.int lz2), .val (.int lz3), .unset] [(.int tz0)])) target → Steps p.tables e below (T198.setTop (mkF m 440 #[.val (.int p0), .val (.int p1), .val (.int p2), .val (.int p3), .val (.int p4), .val (.int r0), .val (.int r1), .val (.int r2), .val (.double u0), .second, .val (.double u1), .second, .val (.double u2), .second, .val (.int fr), .val (.int tt), .val (.double fa), .second, .val (.int a1), .val (.int i1), .val (.double w1), .second, .val (.int a2), .val (.int i2), .val (.double w2), .second, .val (.int in0), .val (.int in1), .val (.int in2), .val (.ref b9), .val (.ref b19), .val (.ref b33), .val (.ref b46), .val (.ref b62), .val (.ref b81), .val (.ref b111), .val (.ref b2_118), .val (.ref b30_118), .val (.int SF.1), .val (.int lz0), .val (.int lz1), .val (.int lz2), .val (.int lz3), .unset] [(.int lz0)])) target := by
    intro target kt
    by_cases hq : lz0 = (0 : Int32)
    · rw [← ((if_pos hq).symm.trans hj_tz0)] at kt
      show Steps p.tables e below (T198.setTop (mkF m 440 #[.val (.int p0), .val (.int p1), .val (.int p2), .val (.int p3), .val (.int p4), .val (.int r0), .val (.int r1), .val (.int r2), .val (.double u0), .second, .val (.double u1), .second, .val (.double u2), .second, .val (.int fr), .val (.int tt), .val (.double fa), .second, .val (.int a1), .val (.int i1), .val (.double w1), .second, .val (.int a2), .val (.int i2), .val (.double w2), .second, .val (.int in0), .val (.int in1), .val (.int in2), .val (.ref b9), .val (.ref b19), .val (.ref b33), .val (.ref b46), .val (.ref b62), .val (.ref b81), .val (.ref b111), .val (.ref b2_118), .val (.ref b30_118), .val (.int SF.1), .val (.int lz0), .val (.int lz1), .val (.int lz2), .val (.int lz3), .unset] [(.int lz0)])) _
      refine XS.ifYes X198.here hx rfl (pc0 := 440) (pc' := 447) rfl (hb hby at_440) rfl ((if0 _ _).trans (teq hq).1) (by decide) (by decide) ?_
      show Steps p.tables e below (T198.setTop (mkF m 447 #[.val (.int p0), .val (.int p1), .val (.int p2), .val (.int p3), .val (.int p4), .val (.int r0), .val (.int r1), .val (.int r2), .val (.double u0), .second, .val (.double u1), .second, .val (.double u2), .second, .val (.int fr), .val (.int tt), .val (.double fa), .second, .val (.int a1), .val (.int i1), .val (.double w1), .second, .val (.int a2), .val (.int i2), .val (.double w2), .second, .val (.int in0), .val (.int in1), .val (.int in2), .val (.ref b9), .val (.ref b19), .val (.ref b33), .val (.ref b46), .val (.ref b62), .val (.ref b81), .val (.ref b111), .val (.ref b2_118), .val (.ref b30_118), .val (.int SF.1), .val (.int lz0), .val (.int lz1), .val (.int lz2), .val (.int lz3), .unset] [])) _
      refine XS.iconst X198.here hx rfl (hb hby at_447) ?_
      show Steps p.tables e below (T198.setTop (mkF m 448 #[.val (.int p0), .val (.int p1), .val (.int p2), .val (.int p3), .val (.int p4), .val (.int r0), .val (.int r1), .val (.int r2), .val (.double u0), .second, .val (.double u1), .second, .val (.double u2), .second, .val (.int fr), .val (.int tt), .val (.double fa), .second, .val (.int a1), .val (.int i1), .val (.double w1), .second, .val (.int a2), .val (.int i2), .val (.double w2), .second, .val (.int in0), .val (.int in1), .val (.int in2), .val (.ref b9), .val (.ref b19), .val (.ref b33), .val (.ref b46), .val (.ref b62), .val (.ref b81), .val (.ref b111), .val (.ref b2_118), .val (.ref b30_118), .val (.int SF.1), .val (.int lz0), .val (.int lz1), .val (.int lz2), .val (.int lz3), .unset] [(.int (0 : Int32))])) _
      exact kt
    · rw [← ((if_neg hq).symm.trans hj_tz0)] at kt
      show Steps p.tables e below (T198.setTop (mkF m 440 #[.val (.int p0), .val (.int p1), .val (.int p2), .val (.int p3), .val (.int p4), .val (.int r0), .val (.int r1), .val (.int r2), .val (.double u0), .second, .val (.double u1), .second, .val (.double u2), .second, .val (.int fr), .val (.int tt), .val (.double fa), .second, .val (.int a1), .val (.int i1), .val (.double w1), .second, .val (.int a2), .val (.int i2), .val (.double w2), .second, .val (.int in0), .val (.int in1), .val (.int in2), .val (.ref b9), .val (.ref b19), .val (.ref b33), .val (.ref b46), .val (.ref b62), .val (.ref b81), .val (.ref b111), .val (.ref b2_118), .val (.ref b30_118), .val (.int SF.1), .val (.int lz0), .val (.int lz1), .val (.int lz2), .val (.int lz3), .unset] [(.int lz0)])) _
      refine XS.ifNo X198.here hx rfl (hb hby at_440) rfl ((if0 _ _).trans (feq hq).1) ?_
      refine XS.iconst X198.here hx rfl (hb hby at_443) ?_
      refine XS.goto X198.here hx rfl (pc0 := 444) (pc' := 448) rfl (hb hby at_444) (by decide) (by decide) ?_
      show Steps p.tables e below (T198.setTop (mkF m 448 #[.val (.int p0), .val (.int p1), .val (.int p2), .val (.int p3), .val (.int p4), .val (.int r0), .val (.int r1), .val (.int r2), .val (.double u0), .second, .val (.double u1), .second, .val (.double u2), .second, .val (.int fr), .val (.int tt), .val (.double fa), .second, .val (.int a1), .val (.int i1), .val (.double w1), .second, .val (.int a2), .val (.int i2), .val (.double w2), .second, .val (.int in0), .val (.int in1), .val (.int in2), .val (.ref b9), .val (.ref b19), .val (.ref b33), .val (.ref b46), .val (.ref b62), .val (.ref b81), .val (.ref b111), .val (.ref b2_118), .val (.ref b30_118), .val (.int SF.1), .val (.int lz0), .val (.int lz1), .val (.int lz2), .val (.int lz3), .unset] [(.int (1 : Int32))])) _
      exact kt
  have jn200 : ∀ target, Steps p.tables e below (T198.setTop (mkF m 458 #[.val (.int p0), .val (.int p1), .val (.int p2), .val (.int p3), .val (.int p4), .val (.int r0), .val (.int r1), .val (.int r2), .val (.double u0), .second, .val (.double u1), .second, .val (.double u2), .second, .val (.int fr), .val (.int tt), .val (.double fa), .second, .val (.int a1), .val (.int i1), .val (.double w1), .second, .val (.int a2), .val (.int i2), .val (.double w2), .second, .val (.int in0), .val (.int in1), .val (.int in2), .val (.ref b9), .val (.ref b19), .val (.ref b33), .val (.ref b46), .val (.ref b62), .val (.ref b81), .val (.ref b111), .val (.ref b2_118), .val (.ref b30_118), .val (.int SF.1), .val (.int lz0), .val (.int lz1), .val (.int lz2), .val (.int lz3), .unset] [(.int tz1), (.int tz0)])) target → Steps p.tables e below (T198.setTop (mkF m 450 #[.val (.int p0), .val (.int p1), .val (.int p2), .val (.int p3), .val (.int p4), .val (.int r0), .val (.int r1), .val (.int r2), .val (.double u0), .second, .val (.double u1), .second, .val (.double u2), .second, .val (.int fr), .val (.int tt), .val (.double fa), .second, .val (.int a1), .val (.int i1), .val (.double w1), .second, .val (.int a2), .val (.int i2), .val (.double w2), .second, .val (.int in0), .val (.int in1), .val (.int in2), .val (.ref b9), .val (.ref b19), .val (.ref b33), .val (.ref b46), .val (.ref b62), .val (.ref b81), .val (.ref b111), .val (.ref b2_118), .val (.ref b30_118), .val (.int SF.1), .val (.int lz0), .val (.int lz1), .val (.int lz2), .val (.int lz3), .unset] [(.int lz1), (.int tz0)])) target := by
    intro target kt
    by_cases hq : lz1 = (0 : Int32)
    · rw [← ((if_pos hq).symm.trans hj_tz1)] at kt
      show Steps p.tables e below (T198.setTop (mkF m 450 #[.val (.int p0), .val (.int p1), .val (.int p2), .val (.int p3), .val (.int p4), .val (.int r0), .val (.int r1), .val (.int r2), .val (.double u0), .second, .val (.double u1), .second, .val (.double u2), .second, .val (.int fr), .val (.int tt), .val (.double fa), .second, .val (.int a1), .val (.int i1), .val (.double w1), .second, .val (.int a2), .val (.int i2), .val (.double w2), .second, .val (.int in0), .val (.int in1), .val (.int in2), .val (.ref b9), .val (.ref b19), .val (.ref b33), .val (.ref b46), .val (.ref b62), .val (.ref b81), .val (.ref b111), .val (.ref b2_118), .val (.ref b30_118), .val (.int SF.1), .val (.int lz0), .val (.int lz1), .val (.int lz2), .val (.int lz3), .unset] [(.int lz1), (.int tz0)])) _
      refine XS.ifYes X198.here hx rfl (pc0 := 450) (pc' := 457) rfl (hb hby at_450) rfl ((if0 _ _).trans (teq hq).1) (by decide) (by decide) ?_
      refine XS.iconst X198.here hx rfl (hb hby at_457) ?_
      show Steps p.tables e below (T198.setTop (mkF m 458 #[.val (.int p0), .val (.int p1), .val (.int p2), .val (.int p3), .val (.int p4), .val (.int r0), .val (.int r1), .val (.int r2), .val (.double u0), .second, .val (.double u1), .second, .val (.double u2), .second, .val (.int fr), .val (.int tt), .val (.double fa), .second, .val (.int a1), .val (.int i1), .val (.double w1), .second, .val (.int a2), .val (.int i2), .val (.double w2), .second, .val (.int in0), .val (.int in1), .val (.int in2), .val (.ref b9), .val (.ref b19), .val (.ref b33), .val (.ref b46), .val (.ref b62), .val (.ref b81), .val (.ref b111), .val (.ref b2_118), .val (.ref b30_118), .val (.int SF.1), .val (.int lz0), .val (.int lz1), .val (.int lz2), .val (.int lz3), .unset] [(.int (0 : Int32)), (.int tz0)])) _
      exact kt
    · rw [← ((if_neg hq).symm.trans hj_tz1)] at kt
      show Steps p.tables e below (T198.setTop (mkF m 450 #[.val (.int p0), .val (.int p1), .val (.int p2), .val (.int p3), .val (.int p4), .val (.int r0), .val (.int r1), .val (.int r2), .val (.double u0), .second, .val (.double u1), .second, .val (.double u2), .second, .val (.int fr), .val (.int tt), .val (.double fa), .second, .val (.int a1), .val (.int i1), .val (.double w1), .second, .val (.int a2), .val (.int i2), .val (.double w2), .second, .val (.int in0), .val (.int in1), .val (.int in2), .val (.ref b9), .val (.ref b19), .val (.ref b33), .val (.ref b46), .val (.ref b62), .val (.ref b81), .val (.ref b111), .val (.ref b2_118), .val (.ref b30_118), .val (.int SF.1), .val (.int lz0), .val (.int lz1), .val (.int lz2), .val (.int lz3), .unset] [(.int lz1), (.int tz0)])) _
      refine XS.ifNo X198.here hx rfl (hb hby at_450) rfl ((if0 _ _).trans (feq hq).1) ?_
      refine XS.iconst X198.here hx rfl (hb hby at_453) ?_
      refine XS.goto X198.here hx rfl (pc0 := 454) (pc' := 458) rfl (hb hby at_454) (by decide) (by decide) ?_
      show Steps p.tables e below (T198.setTop (mkF m 458 #[.val (.int p0), .val (.int p1), .val (.int p2), .val (.int p3), .val (.int p4), .val (.int r0), .val (.int r1), .val (.int r2), .val (.double u0), .second, .val (.double u1), .second, .val (.double u2), .second, .val (.int fr), .val (.int tt), .val (.double fa), .second, .val (.int a1), .val (.int i1), .val (.double w1), .second, .val (.int a2), .val (.int i2), .val (.double w2), .second, .val (.int in0), .val (.int in1), .val (.int in2), .val (.ref b9), .val (.ref b19), .val (.ref b33), .val (.ref b46), .val (.ref b62), .val (.ref b81), .val (.ref b111), .val (.ref b2_118), .val (.ref b30_118), .val (.int SF.1), .val (.int lz0), .val (.int lz1), .val (.int lz2), .val (.int lz3), .unset] [(.int (1 : Int32)), (.int tz0)])) _
      exact kt
  have jn201 : ∀ target, Steps p.tables e below (T198.setTop (mkF m 469 #[.val (.int p0), .val (.int p1), .val (.int p2), .val (.int p3), .val (.int p4), .val (.int r0), .val (.int r1), .val (.int r2), .val (.double u0), .second, .val (.double u1), .second, .val (.double u2), .second, .val (.int fr), .val (.int tt), .val (.double fa), .second, .val (.int a1), .val (.int i1), .val (.double w1), .second, .val (.int a2), .val (.int i2), .val (.double w2), .second, .val (.int in0), .val (.int in1), .val (.int in2), .val (.ref b9), .val (.ref b19), .val (.ref b33), .val (.ref b46), .val (.ref b62), .val (.ref b81), .val (.ref b111), .val (.ref b2_118), .val (.ref b30_118), .val (.int SF.1), .val (.int lz0), .val (.int lz1), .val (.int lz2), .val (.int lz3), .unset] [(.int tz2), (.int (tz0 + tz1))])) target → Steps p.tables e below (T198.setTop (mkF m 461 #[.val (.int p0), .val (.int p1), .val (.int p2), .val (.int p3), .val (.int p4), .val (.int r0), .val (.int r1), .val (.int r2), .val (.double u0), .second, .val (.double u1), .second, .val (.double u2), .second, .val (.int fr), .val (.int tt), .val (.double fa), .second, .val (.int a1), .val (.int i1), .val (.double w1), .second, .val (.int a2), .val (.int i2), .val (.double w2), .second, .val (.int in0), .val (.int in1), .val (.int in2), .val (.ref b9), .val (.ref b19), .val (.ref b33), .val (.ref b46), .val (.ref b62), .val (.ref b81), .val (.ref b111), .val (.ref b2_118), .val (.ref b30_118), .val (.int SF.1), .val (.int lz0), .val (.int lz1), .val (.int lz2), .val (.int lz3), .unset] [(.int lz2), (.int (tz0 + tz1))])) target := by
    intro target kt
    by_cases hq : lz2 = (0 : Int32)
    · rw [← ((if_pos hq).symm.trans hj_tz2)] at kt
      show Steps p.tables e below (T198.setTop (mkF m 461 #[.val (.int p0), .val (.int p1), .val (.int p2), .val (.int p3), .val (.int p4), .val (.int r0), .val (.int r1), .val (.int r2), .val (.double u0), .second, .val (.double u1), .second, .val (.double u2), .second, .val (.int fr), .val (.int tt), .val (.double fa), .second, .val (.int a1), .val (.int i1), .val (.double w1), .second, .val (.int a2), .val (.int i2), .val (.double w2), .second, .val (.int in0), .val (.int in1), .val (.int in2), .val (.ref b9), .val (.ref b19), .val (.ref b33), .val (.ref b46), .val (.ref b62), .val (.ref b81), .val (.ref b111), .val (.ref b2_118), .val (.ref b30_118), .val (.int SF.1), .val (.int lz0), .val (.int lz1), .val (.int lz2), .val (.int lz3), .unset] [(.int lz2), (.int (tz0 + tz1))])) _
      refine XS.ifYes X198.here hx rfl (pc0 := 461) (pc' := 468) rfl (hb hby at_461) rfl ((if0 _ _).trans (teq hq).1) (by decide) (by decide) ?_
      refine XS.iconst X198.here hx rfl (hb hby at_468) ?_
      show Steps p.tables e below (T198.setTop (mkF m 469 #[.val (.int p0), .val (.int p1), .val (.int p2), .val (.int p3), .val (.int p4), .val (.int r0), .val (.int r1), .val (.int r2), .val (.double u0), .second, .val (.double u1), .second, .val (.double u2), .second, .val (.int fr), .val (.int tt), .val (.double fa), .second, .val (.int a1), .val (.int i1), .val (.double w1), .second, .val (.int a2), .val (.int i2), .val (.double w2), .second, .val (.int in0), .val (.int in1), .val (.int in2), .val (.ref b9), .val (.ref b19), .val (.ref b33), .val (.ref b46), .val (.ref b62), .val (.ref b81), .val (.ref b111), .val (.ref b2_118), .val (.ref b30_118), .val (.int SF.1), .val (.int lz0), .val (.int lz1), .val (.int lz2), .val (.int lz3), .unset] [(.int (0 : Int32)), (.int (tz0 + tz1))])) _
      exact kt
    · rw [← ((if_neg hq).symm.trans hj_tz2)] at kt
      show Steps p.tables e below (T198.setTop (mkF m 461 #[.val (.int p0), .val (.int p1), .val (.int p2), .val (.int p3), .val (.int p4), .val (.int r0), .val (.int r1), .val (.int r2), .val (.double u0), .second, .val (.double u1), .second, .val (.double u2), .second, .val (.int fr), .val (.int tt), .val (.double fa), .second, .val (.int a1), .val (.int i1), .val (.double w1), .second, .val (.int a2), .val (.int i2), .val (.double w2), .second, .val (.int in0), .val (.int in1), .val (.int in2), .val (.ref b9), .val (.ref b19), .val (.ref b33), .val (.ref b46), .val (.ref b62), .val (.ref b81), .val (.ref b111), .val (.ref b2_118), .val (.ref b30_118), .val (.int SF.1), .val (.int lz0), .val (.int lz1), .val (.int lz2), .val (.int lz3), .unset] [(.int lz2), (.int (tz0 + tz1))])) _
      refine XS.ifNo X198.here hx rfl (hb hby at_461) rfl ((if0 _ _).trans (feq hq).1) ?_
      refine XS.iconst X198.here hx rfl (hb hby at_464) ?_
      show Steps p.tables e below (T198.setTop (mkF m 465 #[.val (.int p0), .val (.int p1), .val (.int p2), .val (.int p3), .val (.int p4), .val (.int r0), .val (.int r1), .val (.int r2), .val (.double u0), .second, .val (.double u1), .second, .val (.double u2), .second, .val (.int fr), .val (.int tt), .val (.double fa), .second, .val (.int a1), .val (.int i1), .val (.double w1), .second, .val (.int a2), .val (.int i2), .val (.double w2), .second, .val (.int in0), .val (.int in1), .val (.int in2), .val (.ref b9), .val (.ref b19), .val (.ref b33), .val (.ref b46), .val (.ref b62), .val (.ref b81), .val (.ref b111), .val (.ref b2_118), .val (.ref b30_118), .val (.int SF.1), .val (.int lz0), .val (.int lz1), .val (.int lz2), .val (.int lz3), .unset] [(.int (1 : Int32)), (.int (tz0 + tz1))])) _
      refine XS.goto X198.here hx rfl (pc0 := 465) (pc' := 469) rfl (hb hby at_465) (by decide) (by decide) ?_
      show Steps p.tables e below (T198.setTop (mkF m 469 #[.val (.int p0), .val (.int p1), .val (.int p2), .val (.int p3), .val (.int p4), .val (.int r0), .val (.int r1), .val (.int r2), .val (.double u0), .second, .val (.double u1), .second, .val (.double u2), .second, .val (.int fr), .val (.int tt), .val (.double fa), .second, .val (.int a1), .val (.int i1), .val (.double w1), .second, .val (.int a2), .val (.int i2), .val (.double w2), .second, .val (.int in0), .val (.int in1), .val (.int in2), .val (.ref b9), .val (.ref b19), .val (.ref b33), .val (.ref b46), .val (.ref b62), .val (.ref b81), .val (.ref b111), .val (.ref b2_118), .val (.ref b30_118), .val (.int SF.1), .val (.int lz0), .val (.int lz1), .val (.int lz2), .val (.int lz3), .unset] [(.int (1 : Int32)), (.int (tz0 + tz1))])) _
      exact kt
  have jn202 : ∀ target, Steps p.tables e below (T198.setTop (mkF m 480 #[.val (.int p0), .val (.int p1), .val (.int p2), .val (.int p3), .val (.int p4), .val (.int r0), .val (.int r1), .val (.int r2), .val (.double u0), .second, .val (.double u1), .second, .val (.double u2), .second, .val (.int fr), .val (.int tt), .val (.double fa), .second, .val (.int a1), .val (.int i1), .val (.double w1), .second, .val (.int a2), .val (.int i2), .val (.double w2), .second, .val (.int in0), .val (.int in1), .val (.int in2), .val (.ref b9), .val (.ref b19), .val (.ref b33), .val (.ref b46), .val (.ref b62), .val (.ref b81), .val (.ref b111), .val (.ref b2_118), .val (.ref b30_118), .val (.int SF.1), .val (.int lz0), .val (.int lz1), .val (.int lz2), .val (.int lz3), .unset] [(.int tz3), (.int ((tz0 + tz1) + tz2))])) target → Steps p.tables e below (T198.setTop (mkF m 472 #[.val (.int p0), .val (.int p1), .val (.int p2), .val (.int p3), .val (.int p4), .val (.int r0), .val (.int r1), .val (.int r2), .val (.double u0), .second, .val (.double u1), .second, .val (.double u2), .second, .val (.int fr), .val (.int tt), .val (.double fa), .second, .val (.int a1), .val (.int i1), .val (.double w1), .second, .val (.int a2), .val (.int i2), .val (.double w2), .second, .val (.int in0), .val (.int in1), .val (.int in2), .val (.ref b9), .val (.ref b19), .val (.ref b33), .val (.ref b46), .val (.ref b62), .val (.ref b81), .val (.ref b111), .val (.ref b2_118), .val (.ref b30_118), .val (.int SF.1), .val (.int lz0), .val (.int lz1), .val (.int lz2), .val (.int lz3), .unset] [(.int lz3), (.int ((tz0 + tz1) + tz2))])) target := by
    intro target kt
    by_cases hq : lz3 = (0 : Int32)
    · rw [← ((if_pos hq).symm.trans hj_tz3)] at kt
      show Steps p.tables e below (T198.setTop (mkF m 472 #[.val (.int p0), .val (.int p1), .val (.int p2), .val (.int p3), .val (.int p4), .val (.int r0), .val (.int r1), .val (.int r2), .val (.double u0), .second, .val (.double u1), .second, .val (.double u2), .second, .val (.int fr), .val (.int tt), .val (.double fa), .second, .val (.int a1), .val (.int i1), .val (.double w1), .second, .val (.int a2), .val (.int i2), .val (.double w2), .second, .val (.int in0), .val (.int in1), .val (.int in2), .val (.ref b9), .val (.ref b19), .val (.ref b33), .val (.ref b46), .val (.ref b62), .val (.ref b81), .val (.ref b111), .val (.ref b2_118), .val (.ref b30_118), .val (.int SF.1), .val (.int lz0), .val (.int lz1), .val (.int lz2), .val (.int lz3), .unset] [(.int lz3), (.int ((tz0 + tz1) + tz2))])) _
      refine XS.ifYes X198.here hx rfl (pc0 := 472) (pc' := 479) rfl (hb hby at_472) rfl ((if0 _ _).trans (teq hq).1) (by decide) (by decide) ?_
      refine XS.iconst X198.here hx rfl (hb hby at_479) ?_
      show Steps p.tables e below (T198.setTop (mkF m 480 #[.val (.int p0), .val (.int p1), .val (.int p2), .val (.int p3), .val (.int p4), .val (.int r0), .val (.int r1), .val (.int r2), .val (.double u0), .second, .val (.double u1), .second, .val (.double u2), .second, .val (.int fr), .val (.int tt), .val (.double fa), .second, .val (.int a1), .val (.int i1), .val (.double w1), .second, .val (.int a2), .val (.int i2), .val (.double w2), .second, .val (.int in0), .val (.int in1), .val (.int in2), .val (.ref b9), .val (.ref b19), .val (.ref b33), .val (.ref b46), .val (.ref b62), .val (.ref b81), .val (.ref b111), .val (.ref b2_118), .val (.ref b30_118), .val (.int SF.1), .val (.int lz0), .val (.int lz1), .val (.int lz2), .val (.int lz3), .unset] [(.int (0 : Int32)), (.int ((tz0 + tz1) + tz2))])) _
      exact kt
    · rw [← ((if_neg hq).symm.trans hj_tz3)] at kt
      show Steps p.tables e below (T198.setTop (mkF m 472 #[.val (.int p0), .val (.int p1), .val (.int p2), .val (.int p3), .val (.int p4), .val (.int r0), .val (.int r1), .val (.int r2), .val (.double u0), .second, .val (.double u1), .second, .val (.double u2), .second, .val (.int fr), .val (.int tt), .val (.double fa), .second, .val (.int a1), .val (.int i1), .val (.double w1), .second, .val (.int a2), .val (.int i2), .val (.double w2), .second, .val (.int in0), .val (.int in1), .val (.int in2), .val (.ref b9), .val (.ref b19), .val (.ref b33), .val (.ref b46), .val (.ref b62), .val (.ref b81), .val (.ref b111), .val (.ref b2_118), .val (.ref b30_118), .val (.int SF.1), .val (.int lz0), .val (.int lz1), .val (.int lz2), .val (.int lz3), .unset] [(.int lz3), (.int ((tz0 + tz1) + tz2))])) _
      refine XS.ifNo X198.here hx rfl (hb hby at_472) rfl ((if0 _ _).trans (feq hq).1) ?_
      refine XS.iconst X198.here hx rfl (hb hby at_475) ?_
      refine XS.goto X198.here hx rfl (pc0 := 476) (pc' := 480) rfl (hb hby at_476) (by decide) (by decide) ?_
      show Steps p.tables e below (T198.setTop (mkF m 480 #[.val (.int p0), .val (.int p1), .val (.int p2), .val (.int p3), .val (.int p4), .val (.int r0), .val (.int r1), .val (.int r2), .val (.double u0), .second, .val (.double u1), .second, .val (.double u2), .second, .val (.int fr), .val (.int tt), .val (.double fa), .second, .val (.int a1), .val (.int i1), .val (.double w1), .second, .val (.int a2), .val (.int i2), .val (.double w2), .second, .val (.int in0), .val (.int in1), .val (.int in2), .val (.ref b9), .val (.ref b19), .val (.ref b33), .val (.ref b46), .val (.ref b62), .val (.ref b81), .val (.ref b111), .val (.ref b2_118), .val (.ref b30_118), .val (.int SF.1), .val (.int lz0), .val (.int lz1), .val (.int lz2), .val (.int lz3), .unset] [(.int (1 : Int32)), (.int ((tz0 + tz1) + tz2))])) _
      exact kt
  obtain ⟨_, _, ⟨T203, L203, k203, n203⟩, -, X203, ⟨Lc203, hQ203, lq203, yq203, zq203⟩, st203⟩ := Jvm.LawKit.callS X198 hx (y := (⟨"com/example/leeway/leeway/lp/SparseColumnSubtractPinLaw", "present", "([III)Z"⟩ : MethodName)) hown (mvT hZ (hw _ (List.mem_of_getElem? (i := 44) rfl))) (mvT hZ (hw _ (List.mem_of_getElem? (i := 45) rfl))) (mvT hZ (hw _ (List.mem_of_getElem? (i := 42) rfl))) (mvT hZ (hw _ (List.mem_of_getElem? (i := 46) rfl))) (by decide) (backOf (W := 0) (prM l Z a0 hw [] b30_118 SF.1 (0 : Int32) k30_118 qr0 qr1 qr2 qr3 pz0 T172.heap n0 Zs172 f191 hpz_497) hZ (hw _ (List.mem_of_getElem? (i := 46) rfl)) (hw _ (List.mem_of_getElem? (i := 42) rfl)) (by decide) (by decide)) (g := (mkF m 497 #[.val (.int p0), .val (.int p1), .val (.int p2), .val (.int p3), .val (.int p4), .val (.int r0), .val (.int r1), .val (.int r2), .val (.double u0), .second, .val (.double u1), .second, .val (.double u2), .second, .val (.int fr), .val (.int tt), .val (.double fa), .second, .val (.int a1), .val (.int i1), .val (.double w1), .second, .val (.int a2), .val (.int i2), .val (.double w2), .second, .val (.int in0), .val (.int in1), .val (.int in2), .val (.ref b9), .val (.ref b19), .val (.ref b33), .val (.ref b46), .val (.ref b62), .val (.ref b81), .val (.ref b111), .val (.ref b2_118), .val (.ref b30_118), .val (.int SF.1), .val (.int lz0), .val (.int lz1), .val (.int lz2), .val (.int lz3), .val (.int (((tz0 + tz1) + tz2) + tz3))] [(.int (0 : Int32)), (.int SF.1), (.ref b30_118)])) rfl (by rw [hml]; rfl) (argsL := [(.ref b30_118), (.int SF.1), (.int (0 : Int32))]) (rest := []) (lenOf pd_7 rfl) rfl (by show 2 * 0 + _ ≤ _; exact Nat.le_of_eq rfl) (hb hby at_497) (fun _ _ => ⟨rfl, e198, (by decide : 10 + 0 ≤ _), (by decide : 31 + 0 ≤ _)⟩)
  dsimp only [Pt.U, Pt.locs, Pt.cells, Pt.slots] at X203 lq203 yq203 zq203 st203 hQ203
  rw [lq203, yq203, zq203] at X203
  obtain ⟨rfl, N203q, eh203⟩ := hQ203
  have N203 := Fr.app N198 N203q
  have e203 : T203.heap = T172.heap := eh203
  obtain ⟨_, _, ⟨T204, L204, k204, n204⟩, -, X204, ⟨Lc204, hQ204, lq204, yq204, zq204⟩, st204⟩ := Jvm.LawKit.callS X203 hx (y := (⟨"com/example/leeway/leeway/lp/SparseColumnSubtractPinLaw", "present", "([III)Z"⟩ : MethodName)) hown (mvT hZ (hw _ (List.mem_of_getElem? (i := 44) rfl))) (mvT hZ (hw _ (List.mem_of_getElem? (i := 45) rfl))) (mvT hZ (hw _ (List.mem_of_getElem? (i := 42) rfl))) (mvT hZ (hw _ (List.mem_of_getElem? (i := 46) rfl))) (by decide) (backOf (W := 0) (prM l Z a0 hw [] b30_118 SF.1 (1 : Int32) k30_118 qr0 qr1 qr2 qr3 pz1 T172.heap n0 Zs172 f191 hpz_510) hZ (hw _ (List.mem_of_getElem? (i := 46) rfl)) (hw _ (List.mem_of_getElem? (i := 42) rfl)) (by decide) (by decide)) (g := (mkF m 510 #[.val (.int p0), .val (.int p1), .val (.int p2), .val (.int p3), .val (.int p4), .val (.int r0), .val (.int r1), .val (.int r2), .val (.double u0), .second, .val (.double u1), .second, .val (.double u2), .second, .val (.int fr), .val (.int tt), .val (.double fa), .second, .val (.int a1), .val (.int i1), .val (.double w1), .second, .val (.int a2), .val (.int i2), .val (.double w2), .second, .val (.int in0), .val (.int in1), .val (.int in2), .val (.ref b9), .val (.ref b19), .val (.ref b33), .val (.ref b46), .val (.ref b62), .val (.ref b81), .val (.ref b111), .val (.ref b2_118), .val (.ref b30_118), .val (.int SF.1), .val (.int lz0), .val (.int lz1), .val (.int lz2), .val (.int lz3), .val (.int (((tz0 + tz1) + tz2) + tz3))] [(.int (1 : Int32)), (.int SF.1), (.ref b30_118)])) rfl (by rw [hml]; rfl) (argsL := [(.ref b30_118), (.int SF.1), (.int (1 : Int32))]) (rest := []) (lenOf pd_7 rfl) rfl (by show 2 * 0 + _ ≤ _; exact Nat.le_of_eq rfl) (hb hby at_510) (fun _ _ => ⟨rfl, e203, (by decide : 10 + 0 ≤ _), (by decide : 31 + 0 ≤ _)⟩)
  dsimp only [Pt.U, Pt.locs, Pt.cells, Pt.slots] at X204 lq204 yq204 zq204 st204 hQ204
  rw [lq204, yq204, zq204] at X204
  obtain ⟨rfl, N204q, eh204⟩ := hQ204
  have N204 := Fr.app N203 N204q
  have e204 : T204.heap = T172.heap := eh204
  obtain ⟨_, _, ⟨T205, L205, k205, n205⟩, -, X205, ⟨Lc205, hQ205, lq205, yq205, zq205⟩, st205⟩ := Jvm.LawKit.callS X204 hx (y := (⟨"com/example/leeway/leeway/lp/SparseColumnSubtractPinLaw", "present", "([III)Z"⟩ : MethodName)) hown (mvT hZ (hw _ (List.mem_of_getElem? (i := 44) rfl))) (mvT hZ (hw _ (List.mem_of_getElem? (i := 45) rfl))) (mvT hZ (hw _ (List.mem_of_getElem? (i := 42) rfl))) (mvT hZ (hw _ (List.mem_of_getElem? (i := 46) rfl))) (by decide) (backOf (W := 0) (prM l Z a0 hw [] b30_118 SF.1 (2 : Int32) k30_118 qr0 qr1 qr2 qr3 pz2 T172.heap n0 Zs172 f191 hpz_523) hZ (hw _ (List.mem_of_getElem? (i := 46) rfl)) (hw _ (List.mem_of_getElem? (i := 42) rfl)) (by decide) (by decide)) (g := (mkF m 523 #[.val (.int p0), .val (.int p1), .val (.int p2), .val (.int p3), .val (.int p4), .val (.int r0), .val (.int r1), .val (.int r2), .val (.double u0), .second, .val (.double u1), .second, .val (.double u2), .second, .val (.int fr), .val (.int tt), .val (.double fa), .second, .val (.int a1), .val (.int i1), .val (.double w1), .second, .val (.int a2), .val (.int i2), .val (.double w2), .second, .val (.int in0), .val (.int in1), .val (.int in2), .val (.ref b9), .val (.ref b19), .val (.ref b33), .val (.ref b46), .val (.ref b62), .val (.ref b81), .val (.ref b111), .val (.ref b2_118), .val (.ref b30_118), .val (.int SF.1), .val (.int lz0), .val (.int lz1), .val (.int lz2), .val (.int lz3), .val (.int (((tz0 + tz1) + tz2) + tz3))] [(.int (2 : Int32)), (.int SF.1), (.ref b30_118)])) rfl (by rw [hml]; rfl) (argsL := [(.ref b30_118), (.int SF.1), (.int (2 : Int32))]) (rest := []) (lenOf pd_7 rfl) rfl (by show 2 * 0 + _ ≤ _; exact Nat.le_of_eq rfl) (hb hby at_523) (fun _ _ => ⟨rfl, e204, (by decide : 10 + 0 ≤ _), (by decide : 31 + 0 ≤ _)⟩)
  dsimp only [Pt.U, Pt.locs, Pt.cells, Pt.slots] at X205 lq205 yq205 zq205 st205 hQ205
  rw [lq205, yq205, zq205] at X205
  obtain ⟨rfl, N205q, eh205⟩ := hQ205
  have N205 := Fr.app N204 N205q
  have e205 : T205.heap = T172.heap := eh205
  obtain ⟨_, _, ⟨T206, L206, k206, n206⟩, -, X206, ⟨Lc206, hQ206, lq206, yq206, zq206⟩, st206⟩ := Jvm.LawKit.callS X205 hx (y := (⟨"com/example/leeway/leeway/lp/SparseColumnSubtractPinLaw", "present", "([III)Z"⟩ : MethodName)) hown (mvT hZ (hw _ (List.mem_of_getElem? (i := 44) rfl))) (mvT hZ (hw _ (List.mem_of_getElem? (i := 45) rfl))) (mvT hZ (hw _ (List.mem_of_getElem? (i := 42) rfl))) (mvT hZ (hw _ (List.mem_of_getElem? (i := 46) rfl))) (by decide) (backOf (W := 0) (prM l Z a0 hw [] b30_118 SF.1 (3 : Int32) k30_118 qr0 qr1 qr2 qr3 pz3 T172.heap n0 Zs172 f191 hpz_536) hZ (hw _ (List.mem_of_getElem? (i := 46) rfl)) (hw _ (List.mem_of_getElem? (i := 42) rfl)) (by decide) (by decide)) (g := (mkF m 536 #[.val (.int p0), .val (.int p1), .val (.int p2), .val (.int p3), .val (.int p4), .val (.int r0), .val (.int r1), .val (.int r2), .val (.double u0), .second, .val (.double u1), .second, .val (.double u2), .second, .val (.int fr), .val (.int tt), .val (.double fa), .second, .val (.int a1), .val (.int i1), .val (.double w1), .second, .val (.int a2), .val (.int i2), .val (.double w2), .second, .val (.int in0), .val (.int in1), .val (.int in2), .val (.ref b9), .val (.ref b19), .val (.ref b33), .val (.ref b46), .val (.ref b62), .val (.ref b81), .val (.ref b111), .val (.ref b2_118), .val (.ref b30_118), .val (.int SF.1), .val (.int lz0), .val (.int lz1), .val (.int lz2), .val (.int lz3), .val (.int (((tz0 + tz1) + tz2) + tz3))] [(.int (3 : Int32)), (.int SF.1), (.ref b30_118)])) rfl (by rw [hml]; rfl) (argsL := [(.ref b30_118), (.int SF.1), (.int (3 : Int32))]) (rest := []) (lenOf pd_7 rfl) rfl (by show 2 * 0 + _ ≤ _; exact Nat.le_of_eq rfl) (hb hby at_536) (fun _ _ => ⟨rfl, e205, (by decide : 10 + 0 ≤ _), (by decide : 31 + 0 ≤ _)⟩)
  dsimp only [Pt.U, Pt.locs, Pt.cells, Pt.slots] at X206 lq206 yq206 zq206 st206 hQ206
  rw [lq206, yq206, zq206] at X206
  obtain ⟨rfl, N206q, eh206⟩ := hQ206
  have N206 := Fr.app N205 N206q
  have e206 : T206.heap = T172.heap := eh206
  obtain ⟨cq207, Arq207, -, Sq207, -, Hq207, -⟩ := id f192
  obtain ⟨_, _, ⟨T208, L208, k208, n208⟩, -, X208, ⟨Lc208, hQ208, lq208, yq208, zq208⟩, st208⟩ := Jvm.LawKit.callS X206 hx (y := (⟨"com/example/leeway/leeway/lp/SparseColumnSubtractPinLaw", "valueExpected", "(I[Z[I[D[Z[I[DD)D"⟩ : MethodName)) hown (mvT hZ (hw _ (List.mem_of_getElem? (i := 47) rfl))) (mvT hZ (hw _ (List.mem_of_getElem? (i := 48) rfl))) (mvT hZ (hw _ (List.mem_of_getElem? (i := 42) rfl))) (mvT hZ (hw _ (List.mem_of_getElem? (i := 49) rfl))) (by decide) (backOf (W := 2) (veM l Z a0 hw [] (0 : Int32) b33 b46 b81 b9 k33 k46 k81 k9 a1 a2 i1 i2 in0 in1 in2 r0 r1 r2 b62 b19 k62 k19 w1 w2 u0 u1 u2 fa ev0 T172.heap n0 Zs172 f183 f184 f186 f181 f185 f182 hev_565 hnn_565) hZ (hw _ (List.mem_of_getElem? (i := 49) rfl)) (hw _ (List.mem_of_getElem? (i := 42) rfl)) (by decide) (by decide)) (g := (mkF m 565 #[.val (.int p0), .val (.int p1), .val (.int p2), .val (.int p3), .val (.int p4), .val (.int r0), .val (.int r1), .val (.int r2), .val (.double u0), .second, .val (.double u1), .second, .val (.double u2), .second, .val (.int fr), .val (.int tt), .val (.double fa), .second, .val (.int a1), .val (.int i1), .val (.double w1), .second, .val (.int a2), .val (.int i2), .val (.double w2), .second, .val (.int in0), .val (.int in1), .val (.int in2), .val (.ref b9), .val (.ref b19), .val (.ref b33), .val (.ref b46), .val (.ref b62), .val (.ref b81), .val (.ref b111), .val (.ref b2_118), .val (.ref b30_118), .val (.int SF.1), .val (.int lz0), .val (.int lz1), .val (.int lz2), .val (.int lz3), .val (.int (((tz0 + tz1) + tz2) + tz3))] [(.double fa), (.ref b19), (.ref b9), (.ref b81), (.ref b62), (.ref b46), (.ref b33), (.int (0 : Int32)), (.double xr0)])) rfl (by rw [hml]; rfl) (argsL := [(.int (0 : Int32)), (.ref b33), (.ref b46), (.ref b62), (.ref b81), (.ref b9), (.ref b19), (.double fa)]) (rest := [(.double xr0)]) (lenOf pd_8 rfl) rfl (by show 2 * 0 + _ ≤ _; exact Nat.le_of_eq rfl) (hb hby at_565) (fun _ _ => ⟨rfl, e206, (by decide : 10 + 0 ≤ _), (by decide : 31 + 0 ≤ _)⟩)
  dsimp only [Pt.U, Pt.locs, Pt.cells, Pt.slots] at X208 lq208 yq208 zq208 st208 hQ208
  rw [lq208, yq208, zq208] at X208
  obtain ⟨rfl, N208q, eh208⟩ := hQ208
  have N208 := Fr.app N206 N208q
  have e208 : T208.heap = T172.heap := eh208
  obtain ⟨cq209, Arq209, -, Sq209, -, Hq209, -⟩ := id f192
  obtain ⟨_, _, ⟨T210, L210, k210, n210⟩, -, X210, ⟨Lc210, hQ210, lq210, yq210, zq210⟩, st210⟩ := Jvm.LawKit.callS X208 hx (y := (⟨"com/example/leeway/leeway/lp/SparseColumnSubtractPinLaw", "valueExpected", "(I[Z[I[D[Z[I[DD)D"⟩ : MethodName)) hown (mvT hZ (hw _ (List.mem_of_getElem? (i := 47) rfl))) (mvT hZ (hw _ (List.mem_of_getElem? (i := 48) rfl))) (mvT hZ (hw _ (List.mem_of_getElem? (i := 42) rfl))) (mvT hZ (hw _ (List.mem_of_getElem? (i := 49) rfl))) (by decide) (backOf (W := 2) (veM l Z a0 hw [] (1 : Int32) b33 b46 b81 b9 k33 k46 k81 k9 a1 a2 i1 i2 in0 in1 in2 r0 r1 r2 b62 b19 k62 k19 w1 w2 u0 u1 u2 fa ev1 T172.heap n0 Zs172 f183 f184 f186 f181 f185 f182 hev_591 hnn_591) hZ (hw _ (List.mem_of_getElem? (i := 49) rfl)) (hw _ (List.mem_of_getElem? (i := 42) rfl)) (by decide) (by decide)) (g := (mkF m 591 #[.val (.int p0), .val (.int p1), .val (.int p2), .val (.int p3), .val (.int p4), .val (.int r0), .val (.int r1), .val (.int r2), .val (.double u0), .second, .val (.double u1), .second, .val (.double u2), .second, .val (.int fr), .val (.int tt), .val (.double fa), .second, .val (.int a1), .val (.int i1), .val (.double w1), .second, .val (.int a2), .val (.int i2), .val (.double w2), .second, .val (.int in0), .val (.int in1), .val (.int in2), .val (.ref b9), .val (.ref b19), .val (.ref b33), .val (.ref b46), .val (.ref b62), .val (.ref b81), .val (.ref b111), .val (.ref b2_118), .val (.ref b30_118), .val (.int SF.1), .val (.int lz0), .val (.int lz1), .val (.int lz2), .val (.int lz3), .val (.int (((tz0 + tz1) + tz2) + tz3))] [(.double fa), (.ref b19), (.ref b9), (.ref b81), (.ref b62), (.ref b46), (.ref b33), (.int (1 : Int32)), (.double xr1)])) rfl (by rw [hml]; rfl) (argsL := [(.int (1 : Int32)), (.ref b33), (.ref b46), (.ref b62), (.ref b81), (.ref b9), (.ref b19), (.double fa)]) (rest := [(.double xr1)]) (lenOf pd_8 rfl) rfl (by show 2 * 0 + _ ≤ _; exact Nat.le_of_eq rfl) (hb hby at_591) (fun _ _ => ⟨rfl, e208, (by decide : 10 + 0 ≤ _), (by decide : 31 + 0 ≤ _)⟩)
  dsimp only [Pt.U, Pt.locs, Pt.cells, Pt.slots] at X210 lq210 yq210 zq210 st210 hQ210
  rw [lq210, yq210, zq210] at X210
  obtain ⟨rfl, N210q, eh210⟩ := hQ210
  have N210 := Fr.app N208 N210q
  have e210 : T210.heap = T172.heap := eh210
  obtain ⟨cq211, Arq211, -, Sq211, -, Hq211, -⟩ := id f192
  obtain ⟨_, _, ⟨T212, L212, k212, n212⟩, -, X212, ⟨Lc212, hQ212, lq212, yq212, zq212⟩, st212⟩ := Jvm.LawKit.callS X210 hx (y := (⟨"com/example/leeway/leeway/lp/SparseColumnSubtractPinLaw", "valueExpected", "(I[Z[I[D[Z[I[DD)D"⟩ : MethodName)) hown (mvT hZ (hw _ (List.mem_of_getElem? (i := 47) rfl))) (mvT hZ (hw _ (List.mem_of_getElem? (i := 48) rfl))) (mvT hZ (hw _ (List.mem_of_getElem? (i := 42) rfl))) (mvT hZ (hw _ (List.mem_of_getElem? (i := 49) rfl))) (by decide) (backOf (W := 2) (veM l Z a0 hw [] (2 : Int32) b33 b46 b81 b9 k33 k46 k81 k9 a1 a2 i1 i2 in0 in1 in2 r0 r1 r2 b62 b19 k62 k19 w1 w2 u0 u1 u2 fa ev2 T172.heap n0 Zs172 f183 f184 f186 f181 f185 f182 hev_617 hnn_617) hZ (hw _ (List.mem_of_getElem? (i := 49) rfl)) (hw _ (List.mem_of_getElem? (i := 42) rfl)) (by decide) (by decide)) (g := (mkF m 617 #[.val (.int p0), .val (.int p1), .val (.int p2), .val (.int p3), .val (.int p4), .val (.int r0), .val (.int r1), .val (.int r2), .val (.double u0), .second, .val (.double u1), .second, .val (.double u2), .second, .val (.int fr), .val (.int tt), .val (.double fa), .second, .val (.int a1), .val (.int i1), .val (.double w1), .second, .val (.int a2), .val (.int i2), .val (.double w2), .second, .val (.int in0), .val (.int in1), .val (.int in2), .val (.ref b9), .val (.ref b19), .val (.ref b33), .val (.ref b46), .val (.ref b62), .val (.ref b81), .val (.ref b111), .val (.ref b2_118), .val (.ref b30_118), .val (.int SF.1), .val (.int lz0), .val (.int lz1), .val (.int lz2), .val (.int lz3), .val (.int (((tz0 + tz1) + tz2) + tz3))] [(.double fa), (.ref b19), (.ref b9), (.ref b81), (.ref b62), (.ref b46), (.ref b33), (.int (2 : Int32)), (.double xr2)])) rfl (by rw [hml]; rfl) (argsL := [(.int (2 : Int32)), (.ref b33), (.ref b46), (.ref b62), (.ref b81), (.ref b9), (.ref b19), (.double fa)]) (rest := [(.double xr2)]) (lenOf pd_8 rfl) rfl (by show 2 * 0 + _ ≤ _; exact Nat.le_of_eq rfl) (hb hby at_617) (fun _ _ => ⟨rfl, e210, (by decide : 10 + 0 ≤ _), (by decide : 31 + 0 ≤ _)⟩)
  dsimp only [Pt.U, Pt.locs, Pt.cells, Pt.slots] at X212 lq212 yq212 zq212 st212 hQ212
  rw [lq212, yq212, zq212] at X212
  obtain ⟨rfl, N212q, eh212⟩ := hQ212
  have N212 := Fr.app N210 N212q
  have e212 : T212.heap = T172.heap := eh212
  obtain ⟨cq213, Arq213, -, Sq213, -, Hq213, -⟩ := id f192
  obtain ⟨_, _, ⟨T214, L214, k214, n214⟩, -, X214, ⟨Lc214, hQ214, lq214, yq214, zq214⟩, st214⟩ := Jvm.LawKit.callS X212 hx (y := (⟨"com/example/leeway/leeway/lp/SparseColumnSubtractPinLaw", "valueExpected", "(I[Z[I[D[Z[I[DD)D"⟩ : MethodName)) hown (mvT hZ (hw _ (List.mem_of_getElem? (i := 47) rfl))) (mvT hZ (hw _ (List.mem_of_getElem? (i := 48) rfl))) (mvT hZ (hw _ (List.mem_of_getElem? (i := 42) rfl))) (mvT hZ (hw _ (List.mem_of_getElem? (i := 49) rfl))) (by decide) (backOf (W := 2) (veM l Z a0 hw [] (3 : Int32) b33 b46 b81 b9 k33 k46 k81 k9 a1 a2 i1 i2 in0 in1 in2 r0 r1 r2 b62 b19 k62 k19 w1 w2 u0 u1 u2 fa ev3 T172.heap n0 Zs172 f183 f184 f186 f181 f185 f182 hev_643 hnn_643) hZ (hw _ (List.mem_of_getElem? (i := 49) rfl)) (hw _ (List.mem_of_getElem? (i := 42) rfl)) (by decide) (by decide)) (g := (mkF m 643 #[.val (.int p0), .val (.int p1), .val (.int p2), .val (.int p3), .val (.int p4), .val (.int r0), .val (.int r1), .val (.int r2), .val (.double u0), .second, .val (.double u1), .second, .val (.double u2), .second, .val (.int fr), .val (.int tt), .val (.double fa), .second, .val (.int a1), .val (.int i1), .val (.double w1), .second, .val (.int a2), .val (.int i2), .val (.double w2), .second, .val (.int in0), .val (.int in1), .val (.int in2), .val (.ref b9), .val (.ref b19), .val (.ref b33), .val (.ref b46), .val (.ref b62), .val (.ref b81), .val (.ref b111), .val (.ref b2_118), .val (.ref b30_118), .val (.int SF.1), .val (.int lz0), .val (.int lz1), .val (.int lz2), .val (.int lz3), .val (.int (((tz0 + tz1) + tz2) + tz3))] [(.double fa), (.ref b19), (.ref b9), (.ref b81), (.ref b62), (.ref b46), (.ref b33), (.int (3 : Int32)), (.double xr3)])) rfl (by rw [hml]; rfl) (argsL := [(.int (3 : Int32)), (.ref b33), (.ref b46), (.ref b62), (.ref b81), (.ref b9), (.ref b19), (.double fa)]) (rest := [(.double xr3)]) (lenOf pd_8 rfl) rfl (by show 2 * 0 + _ ≤ _; exact Nat.le_of_eq rfl) (hb hby at_643) (fun _ _ => ⟨rfl, e212, (by decide : 10 + 0 ≤ _), (by decide : 31 + 0 ≤ _)⟩)
  dsimp only [Pt.U, Pt.locs, Pt.cells, Pt.slots] at X214 lq214 yq214 zq214 st214 hQ214
  rw [lq214, yq214, zq214] at X214
  obtain ⟨rfl, N214q, eh214⟩ := hQ214
  have N214 := Fr.app N212 N214q
  have e214 : T214.heap = T172.heap := eh214
  obtain ⟨fs, hr, hrun, hended, hW, hsame⟩ := X214.leave (v := some (.int (1 : Int32))) (fun h => by rw [Bd.returns] at h; cases h)
  refine ⟨_, _, pre0 _ ?_, hrun, hended, _, _, rfl, ?_, ⟨_, rfl⟩, hW, hsame.mono (by decide) (by decide)⟩
  · show Steps p.tables e below (s₁.setTop (mkF m 0 #[.val (.int p0), .val (.int p1), .val (.int p2), .val (.int p3), .val (.int p4), .unset, .unset, .unset, .unset, .unset, .unset, .unset, .unset, .unset, .unset, .unset, .unset, .unset, .unset, .unset, .unset, .unset, .unset, .unset, .unset, .unset, .unset, .unset, .unset, .unset, .unset, .unset, .unset, .unset, .unset, .unset, .unset, .unset, .unset, .unset, .unset, .unset, .unset, .unset] [])) _
    refine XS.iloadN X0.here hx rfl (hb hby at_0) rfl ?_
    refine XS.iconst X0.here hx rfl (hb hby at_1) ?_
    refine XS.iand X0.here hx rfl (hb hby at_2) rfl ?_
    show Steps p.tables e below (s₁.setTop (mkF m 3 #[.val (.int p0), .val (.int p1), .val (.int p2), .val (.int p3), .val (.int p4), .unset, .unset, .unset, .unset, .unset, .unset, .unset, .unset, .unset, .unset, .unset, .unset, .unset, .unset, .unset, .unset, .unset, .unset, .unset, .unset, .unset, .unset, .unset, .unset, .unset, .unset, .unset, .unset, .unset, .unset, .unset, .unset, .unset, .unset, .unset, .unset, .unset, .unset, .unset] [(.int (p0 &&& (3 : Int32)))])) _
    rw [hv2]
    show Steps p.tables e below (s₁.setTop (mkF m 3 #[.val (.int p0), .val (.int p1), .val (.int p2), .val (.int p3), .val (.int p4), .unset, .unset, .unset, .unset, .unset, .unset, .unset, .unset, .unset, .unset, .unset, .unset, .unset, .unset, .unset, .unset, .unset, .unset, .unset, .unset, .unset, .unset, .unset, .unset, .unset, .unset, .unset, .unset, .unset, .unset, .unset, .unset, .unset, .unset, .unset, .unset, .unset, .unset, .unset] [(.int r0)])) _
    refine XS.istore X0.here hx rfl (hb hby at_3) rfl (l' := #[.val (.int p0), .val (.int p1), .val (.int p2), .val (.int p3), .val (.int p4), .val (.int r0), .unset, .unset, .unset, .unset, .unset, .unset, .unset, .unset, .unset, .unset, .unset, .unset, .unset, .unset, .unset, .unset, .unset, .unset, .unset, .unset, .unset, .unset, .unset, .unset, .unset, .unset, .unset, .unset, .unset, .unset, .unset, .unset, .unset, .unset, .unset, .unset, .unset, .unset]) rfl ?_
    show Steps p.tables e below (s₁.setTop (mkF m 5 #[.val (.int p0), .val (.int p1), .val (.int p2), .val (.int p3), .val (.int p4), .val (.int r0), .unset, .unset, .unset, .unset, .unset, .unset, .unset, .unset, .unset, .unset, .unset, .unset, .unset, .unset, .unset, .unset, .unset, .unset, .unset, .unset, .unset, .unset, .unset, .unset, .unset, .unset, .unset, .unset, .unset, .unset, .unset, .unset, .unset, .unset, .unset, .unset, .unset, .unset] [])) _
    refine XS.iloadN X0.here hx rfl (hb hby at_5) rfl ?_
    refine XS.iconst X0.here hx rfl (hb hby at_6) ?_
    refine XS.iushr X0.here hx rfl (hb hby at_7) rfl ?_
    refine XS.iconst X0.here hx rfl (hb hby at_8) ?_
    refine XS.iand X0.here hx rfl (hb hby at_9) rfl ?_
    show Steps p.tables e below (s₁.setTop (mkF m 10 #[.val (.int p0), .val (.int p1), .val (.int p2), .val (.int p3), .val (.int p4), .val (.int r0), .unset, .unset, .unset, .unset, .unset, .unset, .unset, .unset, .unset, .unset, .unset, .unset, .unset, .unset, .unset, .unset, .unset, .unset, .unset, .unset, .unset, .unset, .unset, .unset, .unset, .unset, .unset, .unset, .unset, .unset, .unset, .unset, .unset, .unset, .unset, .unset, .unset, .unset] [(.int (((p0.toUInt32 >>> ((2 : Int32) &&& 31).toUInt32).toInt32) &&& (3 : Int32)))])) _
    rw [hv9]
    show Steps p.tables e below (s₁.setTop (mkF m 10 #[.val (.int p0), .val (.int p1), .val (.int p2), .val (.int p3), .val (.int p4), .val (.int r0), .unset, .unset, .unset, .unset, .unset, .unset, .unset, .unset, .unset, .unset, .unset, .unset, .unset, .unset, .unset, .unset, .unset, .unset, .unset, .unset, .unset, .unset, .unset, .unset, .unset, .unset, .unset, .unset, .unset, .unset, .unset, .unset, .unset, .unset, .unset, .unset, .unset, .unset] [(.int r1)])) _
    refine XS.istore X0.here hx rfl (hb hby at_10) rfl (l' := #[.val (.int p0), .val (.int p1), .val (.int p2), .val (.int p3), .val (.int p4), .val (.int r0), .val (.int r1), .unset, .unset, .unset, .unset, .unset, .unset, .unset, .unset, .unset, .unset, .unset, .unset, .unset, .unset, .unset, .unset, .unset, .unset, .unset, .unset, .unset, .unset, .unset, .unset, .unset, .unset, .unset, .unset, .unset, .unset, .unset, .unset, .unset, .unset, .unset, .unset, .unset]) rfl ?_
    refine XS.iloadN X0.here hx rfl (hb hby at_12) rfl ?_
    refine XS.iconst X0.here hx rfl (hb hby at_13) ?_
    refine XS.iushr X0.here hx rfl (hb hby at_14) rfl ?_
    refine XS.iconst X0.here hx rfl (hb hby at_15) ?_
    refine XS.iand X0.here hx rfl (hb hby at_16) rfl ?_
    show Steps p.tables e below (s₁.setTop (mkF m 17 #[.val (.int p0), .val (.int p1), .val (.int p2), .val (.int p3), .val (.int p4), .val (.int r0), .val (.int r1), .unset, .unset, .unset, .unset, .unset, .unset, .unset, .unset, .unset, .unset, .unset, .unset, .unset, .unset, .unset, .unset, .unset, .unset, .unset, .unset, .unset, .unset, .unset, .unset, .unset, .unset, .unset, .unset, .unset, .unset, .unset, .unset, .unset, .unset, .unset, .unset, .unset] [(.int (((p0.toUInt32 >>> ((4 : Int32) &&& 31).toUInt32).toInt32) &&& (3 : Int32)))])) _
    rw [hv16]
    show Steps p.tables e below (s₁.setTop (mkF m 17 #[.val (.int p0), .val (.int p1), .val (.int p2), .val (.int p3), .val (.int p4), .val (.int r0), .val (.int r1), .unset, .unset, .unset, .unset, .unset, .unset, .unset, .unset, .unset, .unset, .unset, .unset, .unset, .unset, .unset, .unset, .unset, .unset, .unset, .unset, .unset, .unset, .unset, .unset, .unset, .unset, .unset, .unset, .unset, .unset, .unset, .unset, .unset, .unset, .unset, .unset, .unset] [(.int r2)])) _
    refine XS.istore X0.here hx rfl (hb hby at_17) rfl (l' := #[.val (.int p0), .val (.int p1), .val (.int p2), .val (.int p3), .val (.int p4), .val (.int r0), .val (.int r1), .val (.int r2), .unset, .unset, .unset, .unset, .unset, .unset, .unset, .unset, .unset, .unset, .unset, .unset, .unset, .unset, .unset, .unset, .unset, .unset, .unset, .unset, .unset, .unset, .unset, .unset, .unset, .unset, .unset, .unset, .unset, .unset, .unset, .unset, .unset, .unset, .unset, .unset]) rfl ?_
    refine XS.iloadN X0.here hx rfl (hb hby at_19) rfl ?_
    refine XS.i2b X0.here hx rfl (hb hby at_20) rfl ?_
    refine XS.i2dS X0.here hx rfl (hb hby at_21) rfl (v := u0) hq21 ?_
    refine XS.dstore X0.here hx rfl (hb hby at_22) rfl (l' := #[.val (.int p0), .val (.int p1), .val (.int p2), .val (.int p3), .val (.int p4), .val (.int r0), .val (.int r1), .val (.int r2), .val (.double u0), .second, .unset, .unset, .unset, .unset, .unset, .unset, .unset, .unset, .unset, .unset, .unset, .unset, .unset, .unset, .unset, .unset, .unset, .unset, .unset, .unset, .unset, .unset, .unset, .unset, .unset, .unset, .unset, .unset, .unset, .unset, .unset, .unset, .unset, .unset]) rfl ?_
    show Steps p.tables e below (s₁.setTop (mkF m 24 #[.val (.int p0), .val (.int p1), .val (.int p2), .val (.int p3), .val (.int p4), .val (.int r0), .val (.int r1), .val (.int r2), .val (.double u0), .second, .unset, .unset, .unset, .unset, .unset, .unset, .unset, .unset, .unset, .unset, .unset, .unset, .unset, .unset, .unset, .unset, .unset, .unset, .unset, .unset, .unset, .unset, .unset, .unset, .unset, .unset, .unset, .unset, .unset, .unset, .unset, .unset, .unset, .unset] [])) _
    refine XS.iloadN X0.here hx rfl (hb hby at_24) rfl ?_
    refine XS.bipush X0.here hx rfl (hb hby at_25) ?_
    refine XS.iushr X0.here hx rfl (hb hby at_27) rfl ?_
    refine XS.i2b X0.here hx rfl (hb hby at_28) rfl ?_
    refine XS.i2dS X0.here hx rfl (hb hby at_29) rfl (v := u1) hq29 ?_
    refine XS.dstore X0.here hx rfl (hb hby at_30) rfl (l' := #[.val (.int p0), .val (.int p1), .val (.int p2), .val (.int p3), .val (.int p4), .val (.int r0), .val (.int r1), .val (.int r2), .val (.double u0), .second, .val (.double u1), .second, .unset, .unset, .unset, .unset, .unset, .unset, .unset, .unset, .unset, .unset, .unset, .unset, .unset, .unset, .unset, .unset, .unset, .unset, .unset, .unset, .unset, .unset, .unset, .unset, .unset, .unset, .unset, .unset, .unset, .unset, .unset, .unset]) rfl ?_
    show Steps p.tables e below (s₁.setTop (mkF m 32 #[.val (.int p0), .val (.int p1), .val (.int p2), .val (.int p3), .val (.int p4), .val (.int r0), .val (.int r1), .val (.int r2), .val (.double u0), .second, .val (.double u1), .second, .unset, .unset, .unset, .unset, .unset, .unset, .unset, .unset, .unset, .unset, .unset, .unset, .unset, .unset, .unset, .unset, .unset, .unset, .unset, .unset, .unset, .unset, .unset, .unset, .unset, .unset, .unset, .unset, .unset, .unset, .unset, .unset] [])) _
    refine XS.iloadN X0.here hx rfl (hb hby at_32) rfl ?_
    refine XS.bipush X0.here hx rfl (hb hby at_33) ?_
    refine XS.iushr X0.here hx rfl (hb hby at_35) rfl ?_
    refine XS.i2b X0.here hx rfl (hb hby at_36) rfl ?_
    refine XS.i2dS X0.here hx rfl (hb hby at_37) rfl (v := u2) hq37 ?_
    refine XS.dstore X0.here hx rfl (hb hby at_38) rfl (l' := #[.val (.int p0), .val (.int p1), .val (.int p2), .val (.int p3), .val (.int p4), .val (.int r0), .val (.int r1), .val (.int r2), .val (.double u0), .second, .val (.double u1), .second, .val (.double u2), .second, .unset, .unset, .unset, .unset, .unset, .unset, .unset, .unset, .unset, .unset, .unset, .unset, .unset, .unset, .unset, .unset, .unset, .unset, .unset, .unset, .unset, .unset, .unset, .unset, .unset, .unset, .unset, .unset, .unset, .unset]) rfl ?_
    show Steps p.tables e below (s₁.setTop (mkF m 40 #[.val (.int p0), .val (.int p1), .val (.int p2), .val (.int p3), .val (.int p4), .val (.int r0), .val (.int r1), .val (.int r2), .val (.double u0), .second, .val (.double u1), .second, .val (.double u2), .second, .unset, .unset, .unset, .unset, .unset, .unset, .unset, .unset, .unset, .unset, .unset, .unset, .unset, .unset, .unset, .unset, .unset, .unset, .unset, .unset, .unset, .unset, .unset, .unset, .unset, .unset, .unset, .unset, .unset, .unset] [])) _
    refine XS.iloadN X0.here hx rfl (hb hby at_40) rfl ?_
    refine XS.iconst X0.here hx rfl (hb hby at_41) ?_
    refine XS.iand X0.here hx rfl (hb hby at_42) rfl ?_
    show Steps p.tables e below (s₁.setTop (mkF m 43 #[.val (.int p0), .val (.int p1), .val (.int p2), .val (.int p3), .val (.int p4), .val (.int r0), .val (.int r1), .val (.int r2), .val (.double u0), .second, .val (.double u1), .second, .val (.double u2), .second, .unset, .unset, .unset, .unset, .unset, .unset, .unset, .unset, .unset, .unset, .unset, .unset, .unset, .unset, .unset, .unset, .unset, .unset, .unset, .unset, .unset, .unset, .unset, .unset, .unset, .unset, .unset, .unset, .unset, .unset] [(.int (p2 &&& (3 : Int32)))])) _
    rw [hv42]
    show Steps p.tables e below (s₁.setTop (mkF m 43 #[.val (.int p0), .val (.int p1), .val (.int p2), .val (.int p3), .val (.int p4), .val (.int r0), .val (.int r1), .val (.int r2), .val (.double u0), .second, .val (.double u1), .second, .val (.double u2), .second, .unset, .unset, .unset, .unset, .unset, .unset, .unset, .unset, .unset, .unset, .unset, .unset, .unset, .unset, .unset, .unset, .unset, .unset, .unset, .unset, .unset, .unset, .unset, .unset, .unset, .unset, .unset, .unset, .unset, .unset] [(.int fr)])) _
    refine XS.istore X0.here hx rfl (hb hby at_43) rfl (l' := #[.val (.int p0), .val (.int p1), .val (.int p2), .val (.int p3), .val (.int p4), .val (.int r0), .val (.int r1), .val (.int r2), .val (.double u0), .second, .val (.double u1), .second, .val (.double u2), .second, .val (.int fr), .unset, .unset, .unset, .unset, .unset, .unset, .unset, .unset, .unset, .unset, .unset, .unset, .unset, .unset, .unset, .unset, .unset, .unset, .unset, .unset, .unset, .unset, .unset, .unset, .unset, .unset, .unset, .unset, .unset]) rfl ?_
    refine XS.iloadN X0.here hx rfl (hb hby at_45) rfl ?_
    show Steps p.tables e below (s₁.setTop (mkF m 46 #[.val (.int p0), .val (.int p1), .val (.int p2), .val (.int p3), .val (.int p4), .val (.int r0), .val (.int r1), .val (.int r2), .val (.double u0), .second, .val (.double u1), .second, .val (.double u2), .second, .val (.int fr), .unset, .unset, .unset, .unset, .unset, .unset, .unset, .unset, .unset, .unset, .unset, .unset, .unset, .unset, .unset, .unset, .unset, .unset, .unset, .unset, .unset, .unset, .unset, .unset, .unset, .unset, .unset, .unset, .unset] [(.int p2)])) _
    refine XS.iconst X0.here hx rfl (hb hby at_46) ?_
    refine XS.iushr X0.here hx rfl (hb hby at_47) rfl ?_
    refine XS.iconst X0.here hx rfl (hb hby at_48) ?_
    refine XS.iand X0.here hx rfl (hb hby at_49) rfl ?_
    show Steps p.tables e below (s₁.setTop (mkF m 50 #[.val (.int p0), .val (.int p1), .val (.int p2), .val (.int p3), .val (.int p4), .val (.int r0), .val (.int r1), .val (.int r2), .val (.double u0), .second, .val (.double u1), .second, .val (.double u2), .second, .val (.int fr), .unset, .unset, .unset, .unset, .unset, .unset, .unset, .unset, .unset, .unset, .unset, .unset, .unset, .unset, .unset, .unset, .unset, .unset, .unset, .unset, .unset, .unset, .unset, .unset, .unset, .unset, .unset, .unset, .unset] [(.int (((p2.toUInt32 >>> ((2 : Int32) &&& 31).toUInt32).toInt32) &&& (3 : Int32)))])) _
    rw [hv49]
    show Steps p.tables e below (s₁.setTop (mkF m 50 #[.val (.int p0), .val (.int p1), .val (.int p2), .val (.int p3), .val (.int p4), .val (.int r0), .val (.int r1), .val (.int r2), .val (.double u0), .second, .val (.double u1), .second, .val (.double u2), .second, .val (.int fr), .unset, .unset, .unset, .unset, .unset, .unset, .unset, .unset, .unset, .unset, .unset, .unset, .unset, .unset, .unset, .unset, .unset, .unset, .unset, .unset, .unset, .unset, .unset, .unset, .unset, .unset, .unset, .unset, .unset] [(.int tt)])) _
    refine XS.istore X0.here hx rfl (hb hby at_50) rfl (l' := #[.val (.int p0), .val (.int p1), .val (.int p2), .val (.int p3), .val (.int p4), .val (.int r0), .val (.int r1), .val (.int r2), .val (.double u0), .second, .val (.double u1), .second, .val (.double u2), .second, .val (.int fr), .val (.int tt), .unset, .unset, .unset, .unset, .unset, .unset, .unset, .unset, .unset, .unset, .unset, .unset, .unset, .unset, .unset, .unset, .unset, .unset, .unset, .unset, .unset, .unset, .unset, .unset, .unset, .unset, .unset, .unset]) rfl ?_
    show Steps p.tables e below (s₁.setTop (mkF m 52 #[.val (.int p0), .val (.int p1), .val (.int p2), .val (.int p3), .val (.int p4), .val (.int r0), .val (.int r1), .val (.int r2), .val (.double u0), .second, .val (.double u1), .second, .val (.double u2), .second, .val (.int fr), .val (.int tt), .unset, .unset, .unset, .unset, .unset, .unset, .unset, .unset, .unset, .unset, .unset, .unset, .unset, .unset, .unset, .unset, .unset, .unset, .unset, .unset, .unset, .unset, .unset, .unset, .unset, .unset, .unset, .unset] [])) _
    refine XS.iloadN X0.here hx rfl (hb hby at_52) rfl ?_
    refine XS.i2s X0.here hx rfl (hb hby at_53) rfl ?_
    refine XS.i2dS X0.here hx rfl (hb hby at_54) rfl (v := fa) hq54 ?_
    refine XS.dstore X0.here hx rfl (hb hby at_55) rfl (l' := #[.val (.int p0), .val (.int p1), .val (.int p2), .val (.int p3), .val (.int p4), .val (.int r0), .val (.int r1), .val (.int r2), .val (.double u0), .second, .val (.double u1), .second, .val (.double u2), .second, .val (.int fr), .val (.int tt), .val (.double fa), .second, .unset, .unset, .unset, .unset, .unset, .unset, .unset, .unset, .unset, .unset, .unset, .unset, .unset, .unset, .unset, .unset, .unset, .unset, .unset, .unset, .unset, .unset, .unset, .unset, .unset, .unset]) rfl ?_
    refine XS.iload X0.here hx rfl (hb hby at_57) rfl ?_
    refine XS.iconst X0.here hx rfl (hb hby at_59) ?_
    show Steps p.tables e below (s₁.setTop (mkF m 60 #[.val (.int p0), .val (.int p1), .val (.int p2), .val (.int p3), .val (.int p4), .val (.int r0), .val (.int r1), .val (.int r2), .val (.double u0), .second, .val (.double u1), .second, .val (.double u2), .second, .val (.int fr), .val (.int tt), .val (.double fa), .second, .unset, .unset, .unset, .unset, .unset, .unset, .unset, .unset, .unset, .unset, .unset, .unset, .unset, .unset, .unset, .unset, .unset, .unset, .unset, .unset, .unset, .unset, .unset, .unset, .unset, .unset] [(.int (1 : Int32)), (.int p4)])) _
    refine XS.iand X0.here hx rfl (hb hby at_60) rfl ?_
    show Steps p.tables e below (s₁.setTop (mkF m 61 #[.val (.int p0), .val (.int p1), .val (.int p2), .val (.int p3), .val (.int p4), .val (.int r0), .val (.int r1), .val (.int r2), .val (.double u0), .second, .val (.double u1), .second, .val (.double u2), .second, .val (.int fr), .val (.int tt), .val (.double fa), .second, .unset, .unset, .unset, .unset, .unset, .unset, .unset, .unset, .unset, .unset, .unset, .unset, .unset, .unset, .unset, .unset, .unset, .unset, .unset, .unset, .unset, .unset, .unset, .unset, .unset, .unset] [(.int (p4 &&& (1 : Int32)))])) _
    refine jn1 _ ?_
    show Steps p.tables e below (s₁.setTop (mkF m 69 #[.val (.int p0), .val (.int p1), .val (.int p2), .val (.int p3), .val (.int p4), .val (.int r0), .val (.int r1), .val (.int r2), .val (.double u0), .second, .val (.double u1), .second, .val (.double u2), .second, .val (.int fr), .val (.int tt), .val (.double fa), .second, .unset, .unset, .unset, .unset, .unset, .unset, .unset, .unset, .unset, .unset, .unset, .unset, .unset, .unset, .unset, .unset, .unset, .unset, .unset, .unset, .unset, .unset, .unset, .unset, .unset, .unset] [(.int a1)])) _
    refine XS.istore X0.here hx rfl (hb hby at_69) rfl (l' := #[.val (.int p0), .val (.int p1), .val (.int p2), .val (.int p3), .val (.int p4), .val (.int r0), .val (.int r1), .val (.int r2), .val (.double u0), .second, .val (.double u1), .second, .val (.double u2), .second, .val (.int fr), .val (.int tt), .val (.double fa), .second, .val (.int a1), .unset, .unset, .unset, .unset, .unset, .unset, .unset, .unset, .unset, .unset, .unset, .unset, .unset, .unset, .unset, .unset, .unset, .unset, .unset, .unset, .unset, .unset, .unset, .unset, .unset]) rfl ?_
    refine XS.iload X0.here hx rfl (hb hby at_71) rfl ?_
    refine XS.iconst X0.here hx rfl (hb hby at_73) ?_
    refine XS.iushr X0.here hx rfl (hb hby at_74) rfl ?_
    refine XS.iconst X0.here hx rfl (hb hby at_75) ?_
    show Steps p.tables e below (s₁.setTop (mkF m 76 #[.val (.int p0), .val (.int p1), .val (.int p2), .val (.int p3), .val (.int p4), .val (.int r0), .val (.int r1), .val (.int r2), .val (.double u0), .second, .val (.double u1), .second, .val (.double u2), .second, .val (.int fr), .val (.int tt), .val (.double fa), .second, .val (.int a1), .unset, .unset, .unset, .unset, .unset, .unset, .unset, .unset, .unset, .unset, .unset, .unset, .unset, .unset, .unset, .unset, .unset, .unset, .unset, .unset, .unset, .unset, .unset, .unset, .unset] [(.int (3 : Int32)), (.int ((p4.toUInt32 >>> ((1 : Int32) &&& 31).toUInt32).toInt32))])) _
    refine XS.iand X0.here hx rfl (hb hby at_76) rfl ?_
    show Steps p.tables e below (s₁.setTop (mkF m 77 #[.val (.int p0), .val (.int p1), .val (.int p2), .val (.int p3), .val (.int p4), .val (.int r0), .val (.int r1), .val (.int r2), .val (.double u0), .second, .val (.double u1), .second, .val (.double u2), .second, .val (.int fr), .val (.int tt), .val (.double fa), .second, .val (.int a1), .unset, .unset, .unset, .unset, .unset, .unset, .unset, .unset, .unset, .unset, .unset, .unset, .unset, .unset, .unset, .unset, .unset, .unset, .unset, .unset, .unset, .unset, .unset, .unset, .unset] [(.int (((p4.toUInt32 >>> ((1 : Int32) &&& 31).toUInt32).toInt32) &&& (3 : Int32)))])) _
    rw [hv76]
    show Steps p.tables e below (s₁.setTop (mkF m 77 #[.val (.int p0), .val (.int p1), .val (.int p2), .val (.int p3), .val (.int p4), .val (.int r0), .val (.int r1), .val (.int r2), .val (.double u0), .second, .val (.double u1), .second, .val (.double u2), .second, .val (.int fr), .val (.int tt), .val (.double fa), .second, .val (.int a1), .unset, .unset, .unset, .unset, .unset, .unset, .unset, .unset, .unset, .unset, .unset, .unset, .unset, .unset, .unset, .unset, .unset, .unset, .unset, .unset, .unset, .unset, .unset, .unset, .unset] [(.int i1)])) _
    refine XS.istore X0.here hx rfl (hb hby at_77) rfl (l' := #[.val (.int p0), .val (.int p1), .val (.int p2), .val (.int p3), .val (.int p4), .val (.int r0), .val (.int r1), .val (.int r2), .val (.double u0), .second, .val (.double u1), .second, .val (.double u2), .second, .val (.int fr), .val (.int tt), .val (.double fa), .second, .val (.int a1), .val (.int i1), .unset, .unset, .unset, .unset, .unset, .unset, .unset, .unset, .unset, .unset, .unset, .unset, .unset, .unset, .unset, .unset, .unset, .unset, .unset, .unset, .unset, .unset, .unset, .unset]) rfl ?_
    refine XS.iload X0.here hx rfl (hb hby at_79) rfl ?_
    refine XS.bipush X0.here hx rfl (hb hby at_81) ?_
    refine XS.iushr X0.here hx rfl (hb hby at_83) rfl ?_
    show Steps p.tables e below (s₁.setTop (mkF m 84 #[.val (.int p0), .val (.int p1), .val (.int p2), .val (.int p3), .val (.int p4), .val (.int r0), .val (.int r1), .val (.int r2), .val (.double u0), .second, .val (.double u1), .second, .val (.double u2), .second, .val (.int fr), .val (.int tt), .val (.double fa), .second, .val (.int a1), .val (.int i1), .unset, .unset, .unset, .unset, .unset, .unset, .unset, .unset, .unset, .unset, .unset, .unset, .unset, .unset, .unset, .unset, .unset, .unset, .unset, .unset, .unset, .unset, .unset, .unset] [(.int ((p4.toUInt32 >>> ((8 : Int32) &&& 31).toUInt32).toInt32))])) _
    refine XS.i2b X0.here hx rfl (hb hby at_84) rfl ?_
    refine XS.i2dS X0.here hx rfl (hb hby at_85) rfl (v := w1) hq85 ?_
    refine XS.dstore X0.here hx rfl (hb hby at_86) rfl (l' := #[.val (.int p0), .val (.int p1), .val (.int p2), .val (.int p3), .val (.int p4), .val (.int r0), .val (.int r1), .val (.int r2), .val (.double u0), .second, .val (.double u1), .second, .val (.double u2), .second, .val (.int fr), .val (.int tt), .val (.double fa), .second, .val (.int a1), .val (.int i1), .val (.double w1), .second, .unset, .unset, .unset, .unset, .unset, .unset, .unset, .unset, .unset, .unset, .unset, .unset, .unset, .unset, .unset, .unset, .unset, .unset, .unset, .unset, .unset, .unset]) rfl ?_
    refine XS.iload X0.here hx rfl (hb hby at_88) rfl ?_
    refine XS.bipush X0.here hx rfl (hb hby at_90) ?_
    refine XS.iand X0.here hx rfl (hb hby at_92) rfl ?_
    show Steps p.tables e below (s₁.setTop (mkF m 93 #[.val (.int p0), .val (.int p1), .val (.int p2), .val (.int p3), .val (.int p4), .val (.int r0), .val (.int r1), .val (.int r2), .val (.double u0), .second, .val (.double u1), .second, .val (.double u2), .second, .val (.int fr), .val (.int tt), .val (.double fa), .second, .val (.int a1), .val (.int i1), .val (.double w1), .second, .unset, .unset, .unset, .unset, .unset, .unset, .unset, .unset, .unset, .unset, .unset, .unset, .unset, .unset, .unset, .unset, .unset, .unset, .unset, .unset, .unset, .unset] [(.int (p4 &&& (8 : Int32)))])) _
    refine jn2 _ ?_
    show Steps p.tables e below (s₁.setTop (mkF m 101 #[.val (.int p0), .val (.int p1), .val (.int p2), .val (.int p3), .val (.int p4), .val (.int r0), .val (.int r1), .val (.int r2), .val (.double u0), .second, .val (.double u1), .second, .val (.double u2), .second, .val (.int fr), .val (.int tt), .val (.double fa), .second, .val (.int a1), .val (.int i1), .val (.double w1), .second, .unset, .unset, .unset, .unset, .unset, .unset, .unset, .unset, .unset, .unset, .unset, .unset, .unset, .unset, .unset, .unset, .unset, .unset, .unset, .unset, .unset, .unset] [(.int a2)])) _
    refine XS.istore X0.here hx rfl (hb hby at_101) rfl (l' := #[.val (.int p0), .val (.int p1), .val (.int p2), .val (.int p3), .val (.int p4), .val (.int r0), .val (.int r1), .val (.int r2), .val (.double u0), .second, .val (.double u1), .second, .val (.double u2), .second, .val (.int fr), .val (.int tt), .val (.double fa), .second, .val (.int a1), .val (.int i1), .val (.double w1), .second, .val (.int a2), .unset, .unset, .unset, .unset, .unset, .unset, .unset, .unset, .unset, .unset, .unset, .unset, .unset, .unset, .unset, .unset, .unset, .unset, .unset, .unset, .unset]) rfl ?_
    refine XS.iload X0.here hx rfl (hb hby at_103) rfl ?_
    refine XS.iconst X0.here hx rfl (hb hby at_105) ?_
    refine XS.iushr X0.here hx rfl (hb hby at_106) rfl ?_
    refine XS.iconst X0.here hx rfl (hb hby at_107) ?_
    refine XS.iand X0.here hx rfl (hb hby at_108) rfl ?_
    show Steps p.tables e below (s₁.setTop (mkF m 109 #[.val (.int p0), .val (.int p1), .val (.int p2), .val (.int p3), .val (.int p4), .val (.int r0), .val (.int r1), .val (.int r2), .val (.double u0), .second, .val (.double u1), .second, .val (.double u2), .second, .val (.int fr), .val (.int tt), .val (.double fa), .second, .val (.int a1), .val (.int i1), .val (.double w1), .second, .val (.int a2), .unset, .unset, .unset, .unset, .unset, .unset, .unset, .unset, .unset, .unset, .unset, .unset, .unset, .unset, .unset, .unset, .unset, .unset, .unset, .unset, .unset] [(.int (((p4.toUInt32 >>> ((4 : Int32) &&& 31).toUInt32).toInt32) &&& (3 : Int32)))])) _
    rw [hv108]
    show Steps p.tables e below (s₁.setTop (mkF m 109 #[.val (.int p0), .val (.int p1), .val (.int p2), .val (.int p3), .val (.int p4), .val (.int r0), .val (.int r1), .val (.int r2), .val (.double u0), .second, .val (.double u1), .second, .val (.double u2), .second, .val (.int fr), .val (.int tt), .val (.double fa), .second, .val (.int a1), .val (.int i1), .val (.double w1), .second, .val (.int a2), .unset, .unset, .unset, .unset, .unset, .unset, .unset, .unset, .unset, .unset, .unset, .unset, .unset, .unset, .unset, .unset, .unset, .unset, .unset, .unset, .unset] [(.int i2)])) _
    refine XS.istore X0.here hx rfl (hb hby at_109) rfl (l' := #[.val (.int p0), .val (.int p1), .val (.int p2), .val (.int p3), .val (.int p4), .val (.int r0), .val (.int r1), .val (.int r2), .val (.double u0), .second, .val (.double u1), .second, .val (.double u2), .second, .val (.int fr), .val (.int tt), .val (.double fa), .second, .val (.int a1), .val (.int i1), .val (.double w1), .second, .val (.int a2), .val (.int i2), .unset, .unset, .unset, .unset, .unset, .unset, .unset, .unset, .unset, .unset, .unset, .unset, .unset, .unset, .unset, .unset, .unset, .unset, .unset, .unset]) rfl ?_
    refine XS.iload X0.here hx rfl (hb hby at_111) rfl ?_
    refine XS.bipush X0.here hx rfl (hb hby at_113) ?_
    refine XS.iushr X0.here hx rfl (hb hby at_115) rfl ?_
    refine XS.i2b X0.here hx rfl (hb hby at_116) rfl ?_
    show Steps p.tables e below (s₁.setTop (mkF m 117 #[.val (.int p0), .val (.int p1), .val (.int p2), .val (.int p3), .val (.int p4), .val (.int r0), .val (.int r1), .val (.int r2), .val (.double u0), .second, .val (.double u1), .second, .val (.double u2), .second, .val (.int fr), .val (.int tt), .val (.double fa), .second, .val (.int a1), .val (.int i1), .val (.double w1), .second, .val (.int a2), .val (.int i2), .unset, .unset, .unset, .unset, .unset, .unset, .unset, .unset, .unset, .unset, .unset, .unset, .unset, .unset, .unset, .unset, .unset, .unset, .unset, .unset] [(.int (((p4.toUInt32 >>> ((16 : Int32) &&& 31).toUInt32).toInt32).toInt8.toInt32))])) _
    refine XS.i2dS X0.here hx rfl (hb hby at_117) rfl (v := w2) hq117 ?_
    refine XS.dstore X0.here hx rfl (hb hby at_118) rfl (l' := #[.val (.int p0), .val (.int p1), .val (.int p2), .val (.int p3), .val (.int p4), .val (.int r0), .val (.int r1), .val (.int r2), .val (.double u0), .second, .val (.double u1), .second, .val (.double u2), .second, .val (.int fr), .val (.int tt), .val (.double fa), .second, .val (.int a1), .val (.int i1), .val (.double w1), .second, .val (.int a2), .val (.int i2), .val (.double w2), .second, .unset, .unset, .unset, .unset, .unset, .unset, .unset, .unset, .unset, .unset, .unset, .unset, .unset, .unset, .unset, .unset, .unset, .unset]) rfl ?_
    refine XS.iload X0.here hx rfl (hb hby at_120) rfl ?_
    show Steps p.tables e below (s₁.setTop (mkF m 122 #[.val (.int p0), .val (.int p1), .val (.int p2), .val (.int p3), .val (.int p4), .val (.int r0), .val (.int r1), .val (.int r2), .val (.double u0), .second, .val (.double u1), .second, .val (.double u2), .second, .val (.int fr), .val (.int tt), .val (.double fa), .second, .val (.int a1), .val (.int i1), .val (.double w1), .second, .val (.int a2), .val (.int i2), .val (.double w2), .second, .unset, .unset, .unset, .unset, .unset, .unset, .unset, .unset, .unset, .unset, .unset, .unset, .unset, .unset, .unset, .unset, .unset, .unset] [(.int fr)])) _
    refine jn4 _ ?_
    show Steps p.tables e below (s₁.setTop (mkF m 136 #[.val (.int p0), .val (.int p1), .val (.int p2), .val (.int p3), .val (.int p4), .val (.int r0), .val (.int r1), .val (.int r2), .val (.double u0), .second, .val (.double u1), .second, .val (.double u2), .second, .val (.int fr), .val (.int tt), .val (.double fa), .second, .val (.int a1), .val (.int i1), .val (.double w1), .second, .val (.int a2), .val (.int i2), .val (.double w2), .second, .unset, .unset, .unset, .unset, .unset, .unset, .unset, .unset, .unset, .unset, .unset, .unset, .unset, .unset, .unset, .unset, .unset, .unset] [(.int in0)])) _
    refine XS.istore X0.here hx rfl (hb hby at_136) rfl (l' := #[.val (.int p0), .val (.int p1), .val (.int p2), .val (.int p3), .val (.int p4), .val (.int r0), .val (.int r1), .val (.int r2), .val (.double u0), .second, .val (.double u1), .second, .val (.double u2), .second, .val (.int fr), .val (.int tt), .val (.double fa), .second, .val (.int a1), .val (.int i1), .val (.double w1), .second, .val (.int a2), .val (.int i2), .val (.double w2), .second, .val (.int in0), .unset, .unset, .unset, .unset, .unset, .unset, .unset, .unset, .unset, .unset, .unset, .unset, .unset, .unset, .unset, .unset, .unset]) rfl ?_
    refine XS.iload X0.here hx rfl (hb hby at_138) rfl ?_
    refine XS.iconst X0.here hx rfl (hb hby at_140) ?_
    show Steps p.tables e below (s₁.setTop (mkF m 141 #[.val (.int p0), .val (.int p1), .val (.int p2), .val (.int p3), .val (.int p4), .val (.int r0), .val (.int r1), .val (.int r2), .val (.double u0), .second, .val (.double u1), .second, .val (.double u2), .second, .val (.int fr), .val (.int tt), .val (.double fa), .second, .val (.int a1), .val (.int i1), .val (.double w1), .second, .val (.int a2), .val (.int i2), .val (.double w2), .second, .val (.int in0), .unset, .unset, .unset, .unset, .unset, .unset, .unset, .unset, .unset, .unset, .unset, .unset, .unset, .unset, .unset, .unset, .unset] [(.int (1 : Int32)), (.int fr)])) _
    refine jn6 _ ?_
    show Steps p.tables e below (s₁.setTop (mkF m 155 #[.val (.int p0), .val (.int p1), .val (.int p2), .val (.int p3), .val (.int p4), .val (.int r0), .val (.int r1), .val (.int r2), .val (.double u0), .second, .val (.double u1), .second, .val (.double u2), .second, .val (.int fr), .val (.int tt), .val (.double fa), .second, .val (.int a1), .val (.int i1), .val (.double w1), .second, .val (.int a2), .val (.int i2), .val (.double w2), .second, .val (.int in0), .unset, .unset, .unset, .unset, .unset, .unset, .unset, .unset, .unset, .unset, .unset, .unset, .unset, .unset, .unset, .unset, .unset] [(.int in1)])) _
    refine XS.istore X0.here hx rfl (hb hby at_155) rfl (l' := #[.val (.int p0), .val (.int p1), .val (.int p2), .val (.int p3), .val (.int p4), .val (.int r0), .val (.int r1), .val (.int r2), .val (.double u0), .second, .val (.double u1), .second, .val (.double u2), .second, .val (.int fr), .val (.int tt), .val (.double fa), .second, .val (.int a1), .val (.int i1), .val (.double w1), .second, .val (.int a2), .val (.int i2), .val (.double w2), .second, .val (.int in0), .val (.int in1), .unset, .unset, .unset, .unset, .unset, .unset, .unset, .unset, .unset, .unset, .unset, .unset, .unset, .unset, .unset, .unset]) rfl ?_
    refine XS.iload X0.here hx rfl (hb hby at_157) rfl ?_
    refine XS.iconst X0.here hx rfl (hb hby at_159) ?_
    show Steps p.tables e below (s₁.setTop (mkF m 160 #[.val (.int p0), .val (.int p1), .val (.int p2), .val (.int p3), .val (.int p4), .val (.int r0), .val (.int r1), .val (.int r2), .val (.double u0), .second, .val (.double u1), .second, .val (.double u2), .second, .val (.int fr), .val (.int tt), .val (.double fa), .second, .val (.int a1), .val (.int i1), .val (.double w1), .second, .val (.int a2), .val (.int i2), .val (.double w2), .second, .val (.int in0), .val (.int in1), .unset, .unset, .unset, .unset, .unset, .unset, .unset, .unset, .unset, .unset, .unset, .unset, .unset, .unset, .unset, .unset] [(.int (2 : Int32)), (.int fr)])) _
    refine jn8 _ ?_
    show Steps p.tables e below (s₁.setTop (mkF m 174 #[.val (.int p0), .val (.int p1), .val (.int p2), .val (.int p3), .val (.int p4), .val (.int r0), .val (.int r1), .val (.int r2), .val (.double u0), .second, .val (.double u1), .second, .val (.double u2), .second, .val (.int fr), .val (.int tt), .val (.double fa), .second, .val (.int a1), .val (.int i1), .val (.double w1), .second, .val (.int a2), .val (.int i2), .val (.double w2), .second, .val (.int in0), .val (.int in1), .unset, .unset, .unset, .unset, .unset, .unset, .unset, .unset, .unset, .unset, .unset, .unset, .unset, .unset, .unset, .unset] [(.int in2)])) _
    refine XS.istore X0.here hx rfl (hb hby at_174) rfl (l' := #[.val (.int p0), .val (.int p1), .val (.int p2), .val (.int p3), .val (.int p4), .val (.int r0), .val (.int r1), .val (.int r2), .val (.double u0), .second, .val (.double u1), .second, .val (.double u2), .second, .val (.int fr), .val (.int tt), .val (.double fa), .second, .val (.int a1), .val (.int i1), .val (.double w1), .second, .val (.int a2), .val (.int i2), .val (.double w2), .second, .val (.int in0), .val (.int in1), .val (.int in2), .unset, .unset, .unset, .unset, .unset, .unset, .unset, .unset, .unset, .unset, .unset, .unset, .unset, .unset, .unset]) rfl ?_
    refine XS.iconst X0.here hx rfl (hb hby at_176) ?_
    refine st9 _ ?_
    show Steps p.tables e below (T9.setTop (mkF m 179 #[.val (.int p0), .val (.int p1), .val (.int p2), .val (.int p3), .val (.int p4), .val (.int r0), .val (.int r1), .val (.int r2), .val (.double u0), .second, .val (.double u1), .second, .val (.double u2), .second, .val (.int fr), .val (.int tt), .val (.double fa), .second, .val (.int a1), .val (.int i1), .val (.double w1), .second, .val (.int a2), .val (.int i2), .val (.double w2), .second, .val (.int in0), .val (.int in1), .val (.int in2), .unset, .unset, .unset, .unset, .unset, .unset, .unset, .unset, .unset, .unset, .unset, .unset, .unset, .unset, .unset] [(.ref b9)])) _
    refine XS.dup X9.here hx rfl (hb hby at_179) rfl rfl ?_
    refine XS.iconst X9.here hx rfl (hb hby at_180) ?_
    refine XS.iload X9.here hx rfl (hb hby at_181) rfl ?_
    refine st11 _ ?_
    show Steps p.tables e below (T11.setTop (mkF m 184 #[.val (.int p0), .val (.int p1), .val (.int p2), .val (.int p3), .val (.int p4), .val (.int r0), .val (.int r1), .val (.int r2), .val (.double u0), .second, .val (.double u1), .second, .val (.double u2), .second, .val (.int fr), .val (.int tt), .val (.double fa), .second, .val (.int a1), .val (.int i1), .val (.double w1), .second, .val (.int a2), .val (.int i2), .val (.double w2), .second, .val (.int in0), .val (.int in1), .val (.int in2), .unset, .unset, .unset, .unset, .unset, .unset, .unset, .unset, .unset, .unset, .unset, .unset, .unset, .unset, .unset] [(.ref b9)])) _
    refine XS.dup X11.here hx rfl (hb hby at_184) rfl rfl ?_
    refine XS.iconst X11.here hx rfl (hb hby at_185) ?_
    show Steps p.tables e below (T11.setTop (mkF m 186 #[.val (.int p0), .val (.int p1), .val (.int p2), .val (.int p3), .val (.int p4), .val (.int r0), .val (.int r1), .val (.int r2), .val (.double u0), .second, .val (.double u1), .second, .val (.double u2), .second, .val (.int fr), .val (.int tt), .val (.double fa), .second, .val (.int a1), .val (.int i1), .val (.double w1), .second, .val (.int a2), .val (.int i2), .val (.double w2), .second, .val (.int in0), .val (.int in1), .val (.int in2), .unset, .unset, .unset, .unset, .unset, .unset, .unset, .unset, .unset, .unset, .unset, .unset, .unset, .unset, .unset] [(.int (1 : Int32)), (.ref b9), (.ref b9)])) _
    refine XS.iload X11.here hx rfl (hb hby at_186) rfl ?_
    refine st14 _ ?_
    show Steps p.tables e below (T14.setTop (mkF m 189 #[.val (.int p0), .val (.int p1), .val (.int p2), .val (.int p3), .val (.int p4), .val (.int r0), .val (.int r1), .val (.int r2), .val (.double u0), .second, .val (.double u1), .second, .val (.double u2), .second, .val (.int fr), .val (.int tt), .val (.double fa), .second, .val (.int a1), .val (.int i1), .val (.double w1), .second, .val (.int a2), .val (.int i2), .val (.double w2), .second, .val (.int in0), .val (.int in1), .val (.int in2), .unset, .unset, .unset, .unset, .unset, .unset, .unset, .unset, .unset, .unset, .unset, .unset, .unset, .unset, .unset] [(.ref b9)])) _
    refine XS.dup X14.here hx rfl (hb hby at_189) rfl rfl ?_
    refine XS.iconst X14.here hx rfl (hb hby at_190) ?_
    refine XS.iload X14.here hx rfl (hb hby at_191) rfl ?_
    refine st17 _ ?_
    show Steps p.tables e below (T17.setTop (mkF m 194 #[.val (.int p0), .val (.int p1), .val (.int p2), .val (.int p3), .val (.int p4), .val (.int r0), .val (.int r1), .val (.int r2), .val (.double u0), .second, .val (.double u1), .second, .val (.double u2), .second, .val (.int fr), .val (.int tt), .val (.double fa), .second, .val (.int a1), .val (.int i1), .val (.double w1), .second, .val (.int a2), .val (.int i2), .val (.double w2), .second, .val (.int in0), .val (.int in1), .val (.int in2), .unset, .unset, .unset, .unset, .unset, .unset, .unset, .unset, .unset, .unset, .unset, .unset, .unset, .unset, .unset] [(.ref b9)])) _
    refine XS.astore X17.here hx rfl (hb hby at_194) rfl rfl (l' := #[.val (.int p0), .val (.int p1), .val (.int p2), .val (.int p3), .val (.int p4), .val (.int r0), .val (.int r1), .val (.int r2), .val (.double u0), .second, .val (.double u1), .second, .val (.double u2), .second, .val (.int fr), .val (.int tt), .val (.double fa), .second, .val (.int a1), .val (.int i1), .val (.double w1), .second, .val (.int a2), .val (.int i2), .val (.double w2), .second, .val (.int in0), .val (.int in1), .val (.int in2), .val (.ref b9), .unset, .unset, .unset, .unset, .unset, .unset, .unset, .unset, .unset, .unset, .unset, .unset, .unset, .unset]) rfl ?_
    refine XS.iconst X17.here hx rfl (hb hby at_196) ?_
    refine st19 _ ?_
    show Steps p.tables e below (T19.setTop (mkF m 199 #[.val (.int p0), .val (.int p1), .val (.int p2), .val (.int p3), .val (.int p4), .val (.int r0), .val (.int r1), .val (.int r2), .val (.double u0), .second, .val (.double u1), .second, .val (.double u2), .second, .val (.int fr), .val (.int tt), .val (.double fa), .second, .val (.int a1), .val (.int i1), .val (.double w1), .second, .val (.int a2), .val (.int i2), .val (.double w2), .second, .val (.int in0), .val (.int in1), .val (.int in2), .val (.ref b9), .unset, .unset, .unset, .unset, .unset, .unset, .unset, .unset, .unset, .unset, .unset, .unset, .unset, .unset] [(.ref b19)])) _
    refine XS.dup X19.here hx rfl (hb hby at_199) rfl rfl ?_
    refine XS.iconst X19.here hx rfl (hb hby at_200) ?_
    refine XS.dload X19.here hx rfl (hb hby at_201) rfl ?_
    show Steps p.tables e below (T19.setTop (mkF m 203 #[.val (.int p0), .val (.int p1), .val (.int p2), .val (.int p3), .val (.int p4), .val (.int r0), .val (.int r1), .val (.int r2), .val (.double u0), .second, .val (.double u1), .second, .val (.double u2), .second, .val (.int fr), .val (.int tt), .val (.double fa), .second, .val (.int a1), .val (.int i1), .val (.double w1), .second, .val (.int a2), .val (.int i2), .val (.double w2), .second, .val (.int in0), .val (.int in1), .val (.int in2), .val (.ref b9), .unset, .unset, .unset, .unset, .unset, .unset, .unset, .unset, .unset, .unset, .unset, .unset, .unset, .unset] [(.double u0), (.int (0 : Int32)), (.ref b19), (.ref b19)])) _
    refine st22 _ ?_
    show Steps p.tables e below (T22.setTop (mkF m 204 #[.val (.int p0), .val (.int p1), .val (.int p2), .val (.int p3), .val (.int p4), .val (.int r0), .val (.int r1), .val (.int r2), .val (.double u0), .second, .val (.double u1), .second, .val (.double u2), .second, .val (.int fr), .val (.int tt), .val (.double fa), .second, .val (.int a1), .val (.int i1), .val (.double w1), .second, .val (.int a2), .val (.int i2), .val (.double w2), .second, .val (.int in0), .val (.int in1), .val (.int in2), .val (.ref b9), .unset, .unset, .unset, .unset, .unset, .unset, .unset, .unset, .unset, .unset, .unset, .unset, .unset, .unset] [(.ref b19)])) _
    refine XS.dup X22.here hx rfl (hb hby at_204) rfl rfl ?_
    refine XS.iconst X22.here hx rfl (hb hby at_205) ?_
    refine XS.dload X22.here hx rfl (hb hby at_206) rfl ?_
    refine st26 _ ?_
    show Steps p.tables e below (T26.setTop (mkF m 209 #[.val (.int p0), .val (.int p1), .val (.int p2), .val (.int p3), .val (.int p4), .val (.int r0), .val (.int r1), .val (.int r2), .val (.double u0), .second, .val (.double u1), .second, .val (.double u2), .second, .val (.int fr), .val (.int tt), .val (.double fa), .second, .val (.int a1), .val (.int i1), .val (.double w1), .second, .val (.int a2), .val (.int i2), .val (.double w2), .second, .val (.int in0), .val (.int in1), .val (.int in2), .val (.ref b9), .unset, .unset, .unset, .unset, .unset, .unset, .unset, .unset, .unset, .unset, .unset, .unset, .unset, .unset] [(.ref b19)])) _
    refine XS.dup X26.here hx rfl (hb hby at_209) rfl rfl ?_
    show Steps p.tables e below (T26.setTop (mkF m 210 #[.val (.int p0), .val (.int p1), .val (.int p2), .val (.int p3), .val (.int p4), .val (.int r0), .val (.int r1), .val (.int r2), .val (.double u0), .second, .val (.double u1), .second, .val (.double u2), .second, .val (.int fr), .val (.int tt), .val (.double fa), .second, .val (.int a1), .val (.int i1), .val (.double w1), .second, .val (.int a2), .val (.int i2), .val (.double w2), .second, .val (.int in0), .val (.int in1), .val (.int in2), .val (.ref b9), .unset, .unset, .unset, .unset, .unset, .unset, .unset, .unset, .unset, .unset, .unset, .unset, .unset, .unset] [(.ref b19), (.ref b19)])) _
    refine XS.iconst X26.here hx rfl (hb hby at_210) ?_
    refine XS.dload X26.here hx rfl (hb hby at_211) rfl ?_
    refine st30 _ ?_
    show Steps p.tables e below (T30.setTop (mkF m 214 #[.val (.int p0), .val (.int p1), .val (.int p2), .val (.int p3), .val (.int p4), .val (.int r0), .val (.int r1), .val (.int r2), .val (.double u0), .second, .val (.double u1), .second, .val (.double u2), .second, .val (.int fr), .val (.int tt), .val (.double fa), .second, .val (.int a1), .val (.int i1), .val (.double w1), .second, .val (.int a2), .val (.int i2), .val (.double w2), .second, .val (.int in0), .val (.int in1), .val (.int in2), .val (.ref b9), .unset, .unset, .unset, .unset, .unset, .unset, .unset, .unset, .unset, .unset, .unset, .unset, .unset, .unset] [(.ref b19)])) _
    refine XS.astore X30.here hx rfl (hb hby at_214) rfl rfl (l' := #[.val (.int p0), .val (.int p1), .val (.int p2), .val (.int p3), .val (.int p4), .val (.int r0), .val (.int r1), .val (.int r2), .val (.double u0), .second, .val (.double u1), .second, .val (.double u2), .second, .val (.int fr), .val (.int tt), .val (.double fa), .second, .val (.int a1), .val (.int i1), .val (.double w1), .second, .val (.int a2), .val (.int i2), .val (.double w2), .second, .val (.int in0), .val (.int in1), .val (.int in2), .val (.ref b9), .val (.ref b19), .unset, .unset, .unset, .unset, .unset, .unset, .unset, .unset, .unset, .unset, .unset, .unset, .unset]) rfl ?_
    refine XS.iconst X30.here hx rfl (hb hby at_216) ?_
    refine st33 _ ?_
    show Steps p.tables e below (T33.setTop (mkF m 219 #[.val (.int p0), .val (.int p1), .val (.int p2), .val (.int p3), .val (.int p4), .val (.int r0), .val (.int r1), .val (.int r2), .val (.double u0), .second, .val (.double u1), .second, .val (.double u2), .second, .val (.int fr), .val (.int tt), .val (.double fa), .second, .val (.int a1), .val (.int i1), .val (.double w1), .second, .val (.int a2), .val (.int i2), .val (.double w2), .second, .val (.int in0), .val (.int in1), .val (.int in2), .val (.ref b9), .val (.ref b19), .unset, .unset, .unset, .unset, .unset, .unset, .unset, .unset, .unset, .unset, .unset, .unset, .unset] [(.ref b33)])) _
    refine XS.dup X33.here hx rfl (hb hby at_219) rfl rfl ?_
    refine XS.iconst X33.here hx rfl (hb hby at_220) ?_
    refine XS.iload X33.here hx rfl (hb hby at_221) rfl ?_
    refine st37 _ ?_
    show Steps p.tables e below (T37.setTop (mkF m 224 #[.val (.int p0), .val (.int p1), .val (.int p2), .val (.int p3), .val (.int p4), .val (.int r0), .val (.int r1), .val (.int r2), .val (.double u0), .second, .val (.double u1), .second, .val (.double u2), .second, .val (.int fr), .val (.int tt), .val (.double fa), .second, .val (.int a1), .val (.int i1), .val (.double w1), .second, .val (.int a2), .val (.int i2), .val (.double w2), .second, .val (.int in0), .val (.int in1), .val (.int in2), .val (.ref b9), .val (.ref b19), .unset, .unset, .unset, .unset, .unset, .unset, .unset, .unset, .unset, .unset, .unset, .unset, .unset] [(.ref b33)])) _
    refine XS.dup X37.here hx rfl (hb hby at_224) rfl rfl ?_
    refine XS.iconst X37.here hx rfl (hb hby at_225) ?_
    show Steps p.tables e below (T37.setTop (mkF m 226 #[.val (.int p0), .val (.int p1), .val (.int p2), .val (.int p3), .val (.int p4), .val (.int r0), .val (.int r1), .val (.int r2), .val (.double u0), .second, .val (.double u1), .second, .val (.double u2), .second, .val (.int fr), .val (.int tt), .val (.double fa), .second, .val (.int a1), .val (.int i1), .val (.double w1), .second, .val (.int a2), .val (.int i2), .val (.double w2), .second, .val (.int in0), .val (.int in1), .val (.int in2), .val (.ref b9), .val (.ref b19), .unset, .unset, .unset, .unset, .unset, .unset, .unset, .unset, .unset, .unset, .unset, .unset, .unset] [(.int (1 : Int32)), (.ref b33), (.ref b33)])) _
    refine XS.iload X37.here hx rfl (hb hby at_226) rfl ?_
    refine st42 _ ?_
    show Steps p.tables e below (T42.setTop (mkF m 229 #[.val (.int p0), .val (.int p1), .val (.int p2), .val (.int p3), .val (.int p4), .val (.int r0), .val (.int r1), .val (.int r2), .val (.double u0), .second, .val (.double u1), .second, .val (.double u2), .second, .val (.int fr), .val (.int tt), .val (.double fa), .second, .val (.int a1), .val (.int i1), .val (.double w1), .second, .val (.int a2), .val (.int i2), .val (.double w2), .second, .val (.int in0), .val (.int in1), .val (.int in2), .val (.ref b9), .val (.ref b19), .unset, .unset, .unset, .unset, .unset, .unset, .unset, .unset, .unset, .unset, .unset, .unset, .unset] [(.ref b33)])) _
    refine XS.astore X42.here hx rfl (hb hby at_229) rfl rfl (l' := #[.val (.int p0), .val (.int p1), .val (.int p2), .val (.int p3), .val (.int p4), .val (.int r0), .val (.int r1), .val (.int r2), .val (.double u0), .second, .val (.double u1), .second, .val (.double u2), .second, .val (.int fr), .val (.int tt), .val (.double fa), .second, .val (.int a1), .val (.int i1), .val (.double w1), .second, .val (.int a2), .val (.int i2), .val (.double w2), .second, .val (.int in0), .val (.int in1), .val (.int in2), .val (.ref b9), .val (.ref b19), .val (.ref b33), .unset, .unset, .unset, .unset, .unset, .unset, .unset, .unset, .unset, .unset, .unset, .unset]) rfl ?_
    refine XS.iconst X42.here hx rfl (hb hby at_231) ?_
    refine st46 _ ?_
    show Steps p.tables e below (T46.setTop (mkF m 234 #[.val (.int p0), .val (.int p1), .val (.int p2), .val (.int p3), .val (.int p4), .val (.int r0), .val (.int r1), .val (.int r2), .val (.double u0), .second, .val (.double u1), .second, .val (.double u2), .second, .val (.int fr), .val (.int tt), .val (.double fa), .second, .val (.int a1), .val (.int i1), .val (.double w1), .second, .val (.int a2), .val (.int i2), .val (.double w2), .second, .val (.int in0), .val (.int in1), .val (.int in2), .val (.ref b9), .val (.ref b19), .val (.ref b33), .unset, .unset, .unset, .unset, .unset, .unset, .unset, .unset, .unset, .unset, .unset, .unset] [(.ref b46)])) _
    refine XS.dup X46.here hx rfl (hb hby at_234) rfl rfl ?_
    show Steps p.tables e below (T46.setTop (mkF m 235 #[.val (.int p0), .val (.int p1), .val (.int p2), .val (.int p3), .val (.int p4), .val (.int r0), .val (.int r1), .val (.int r2), .val (.double u0), .second, .val (.double u1), .second, .val (.double u2), .second, .val (.int fr), .val (.int tt), .val (.double fa), .second, .val (.int a1), .val (.int i1), .val (.double w1), .second, .val (.int a2), .val (.int i2), .val (.double w2), .second, .val (.int in0), .val (.int in1), .val (.int in2), .val (.ref b9), .val (.ref b19), .val (.ref b33), .unset, .unset, .unset, .unset, .unset, .unset, .unset, .unset, .unset, .unset, .unset, .unset] [(.ref b46), (.ref b46)])) _
    refine XS.iconst X46.here hx rfl (hb hby at_235) ?_
    refine XS.iload X46.here hx rfl (hb hby at_236) rfl ?_
    refine st51 _ ?_
    show Steps p.tables e below (T51.setTop (mkF m 239 #[.val (.int p0), .val (.int p1), .val (.int p2), .val (.int p3), .val (.int p4), .val (.int r0), .val (.int r1), .val (.int r2), .val (.double u0), .second, .val (.double u1), .second, .val (.double u2), .second, .val (.int fr), .val (.int tt), .val (.double fa), .second, .val (.int a1), .val (.int i1), .val (.double w1), .second, .val (.int a2), .val (.int i2), .val (.double w2), .second, .val (.int in0), .val (.int in1), .val (.int in2), .val (.ref b9), .val (.ref b19), .val (.ref b33), .unset, .unset, .unset, .unset, .unset, .unset, .unset, .unset, .unset, .unset, .unset, .unset] [(.ref b46)])) _
    refine XS.dup X51.here hx rfl (hb hby at_239) rfl rfl ?_
    refine XS.iconst X51.here hx rfl (hb hby at_240) ?_
    refine XS.iload X51.here hx rfl (hb hby at_241) rfl ?_
    show Steps p.tables e below (T51.setTop (mkF m 243 #[.val (.int p0), .val (.int p1), .val (.int p2), .val (.int p3), .val (.int p4), .val (.int r0), .val (.int r1), .val (.int r2), .val (.double u0), .second, .val (.double u1), .second, .val (.double u2), .second, .val (.int fr), .val (.int tt), .val (.double fa), .second, .val (.int a1), .val (.int i1), .val (.double w1), .second, .val (.int a2), .val (.int i2), .val (.double w2), .second, .val (.int in0), .val (.int in1), .val (.int in2), .val (.ref b9), .val (.ref b19), .val (.ref b33), .unset, .unset, .unset, .unset, .unset, .unset, .unset, .unset, .unset, .unset, .unset, .unset] [(.int i2), (.int (1 : Int32)), (.ref b46), (.ref b46)])) _
    refine st57 _ ?_
    show Steps p.tables e below (T57.setTop (mkF m 244 #[.val (.int p0), .val (.int p1), .val (.int p2), .val (.int p3), .val (.int p4), .val (.int r0), .val (.int r1), .val (.int r2), .val (.double u0), .second, .val (.double u1), .second, .val (.double u2), .second, .val (.int fr), .val (.int tt), .val (.double fa), .second, .val (.int a1), .val (.int i1), .val (.double w1), .second, .val (.int a2), .val (.int i2), .val (.double w2), .second, .val (.int in0), .val (.int in1), .val (.int in2), .val (.ref b9), .val (.ref b19), .val (.ref b33), .unset, .unset, .unset, .unset, .unset, .unset, .unset, .unset, .unset, .unset, .unset, .unset] [(.ref b46)])) _
    refine XS.astore X57.here hx rfl (hb hby at_244) rfl rfl (l' := #[.val (.int p0), .val (.int p1), .val (.int p2), .val (.int p3), .val (.int p4), .val (.int r0), .val (.int r1), .val (.int r2), .val (.double u0), .second, .val (.double u1), .second, .val (.double u2), .second, .val (.int fr), .val (.int tt), .val (.double fa), .second, .val (.int a1), .val (.int i1), .val (.double w1), .second, .val (.int a2), .val (.int i2), .val (.double w2), .second, .val (.int in0), .val (.int in1), .val (.int in2), .val (.ref b9), .val (.ref b19), .val (.ref b33), .val (.ref b46), .unset, .unset, .unset, .unset, .unset, .unset, .unset, .unset, .unset, .unset, .unset]) rfl ?_
    refine XS.iconst X57.here hx rfl (hb hby at_246) ?_
    refine st62 _ ?_
    show Steps p.tables e below (T62.setTop (mkF m 249 #[.val (.int p0), .val (.int p1), .val (.int p2), .val (.int p3), .val (.int p4), .val (.int r0), .val (.int r1), .val (.int r2), .val (.double u0), .second, .val (.double u1), .second, .val (.double u2), .second, .val (.int fr), .val (.int tt), .val (.double fa), .second, .val (.int a1), .val (.int i1), .val (.double w1), .second, .val (.int a2), .val (.int i2), .val (.double w2), .second, .val (.int in0), .val (.int in1), .val (.int in2), .val (.ref b9), .val (.ref b19), .val (.ref b33), .val (.ref b46), .unset, .unset, .unset, .unset, .unset, .unset, .unset, .unset, .unset, .unset, .unset] [(.ref b62)])) _
    refine XS.dup X62.here hx rfl (hb hby at_249) rfl rfl ?_
    refine XS.iconst X62.here hx rfl (hb hby at_250) ?_
    show Steps p.tables e below (T62.setTop (mkF m 251 #[.val (.int p0), .val (.int p1), .val (.int p2), .val (.int p3), .val (.int p4), .val (.int r0), .val (.int r1), .val (.int r2), .val (.double u0), .second, .val (.double u1), .second, .val (.double u2), .second, .val (.int fr), .val (.int tt), .val (.double fa), .second, .val (.int a1), .val (.int i1), .val (.double w1), .second, .val (.int a2), .val (.int i2), .val (.double w2), .second, .val (.int in0), .val (.int in1), .val (.int in2), .val (.ref b9), .val (.ref b19), .val (.ref b33), .val (.ref b46), .unset, .unset, .unset, .unset, .unset, .unset, .unset, .unset, .unset, .unset, .unset] [(.int (0 : Int32)), (.ref b62), (.ref b62)])) _
    refine XS.dload X62.here hx rfl (hb hby at_251) rfl ?_
    refine st68 _ ?_
    show Steps p.tables e below (T68.setTop (mkF m 254 #[.val (.int p0), .val (.int p1), .val (.int p2), .val (.int p3), .val (.int p4), .val (.int r0), .val (.int r1), .val (.int r2), .val (.double u0), .second, .val (.double u1), .second, .val (.double u2), .second, .val (.int fr), .val (.int tt), .val (.double fa), .second, .val (.int a1), .val (.int i1), .val (.double w1), .second, .val (.int a2), .val (.int i2), .val (.double w2), .second, .val (.int in0), .val (.int in1), .val (.int in2), .val (.ref b9), .val (.ref b19), .val (.ref b33), .val (.ref b46), .unset, .unset, .unset, .unset, .unset, .unset, .unset, .unset, .unset, .unset, .unset] [(.ref b62)])) _
    refine XS.dup X68.here hx rfl (hb hby at_254) rfl rfl ?_
    refine XS.iconst X68.here hx rfl (hb hby at_255) ?_
    refine XS.dload X68.here hx rfl (hb hby at_256) rfl ?_
    refine st75 _ ?_
    show Steps p.tables e below (T75.setTop (mkF m 259 #[.val (.int p0), .val (.int p1), .val (.int p2), .val (.int p3), .val (.int p4), .val (.int r0), .val (.int r1), .val (.int r2), .val (.double u0), .second, .val (.double u1), .second, .val (.double u2), .second, .val (.int fr), .val (.int tt), .val (.double fa), .second, .val (.int a1), .val (.int i1), .val (.double w1), .second, .val (.int a2), .val (.int i2), .val (.double w2), .second, .val (.int in0), .val (.int in1), .val (.int in2), .val (.ref b9), .val (.ref b19), .val (.ref b33), .val (.ref b46), .unset, .unset, .unset, .unset, .unset, .unset, .unset, .unset, .unset, .unset, .unset] [(.ref b62)])) _
    refine XS.astore X75.here hx rfl (hb hby at_259) rfl rfl (l' := #[.val (.int p0), .val (.int p1), .val (.int p2), .val (.int p3), .val (.int p4), .val (.int r0), .val (.int r1), .val (.int r2), .val (.double u0), .second, .val (.double u1), .second, .val (.double u2), .second, .val (.int fr), .val (.int tt), .val (.double fa), .second, .val (.int a1), .val (.int i1), .val (.double w1), .second, .val (.int a2), .val (.int i2), .val (.double w2), .second, .val (.int in0), .val (.int in1), .val (.int in2), .val (.ref b9), .val (.ref b19), .val (.ref b33), .val (.ref b46), .val (.ref b62), .unset, .unset, .unset, .unset, .unset, .unset, .unset, .unset, .unset, .unset]) rfl ?_
    refine XS.iconst X75.here hx rfl (hb hby at_261) ?_
    refine st81 _ ?_
    show Steps p.tables e below (T81.setTop (mkF m 264 #[.val (.int p0), .val (.int p1), .val (.int p2), .val (.int p3), .val (.int p4), .val (.int r0), .val (.int r1), .val (.int r2), .val (.double u0), .second, .val (.double u1), .second, .val (.double u2), .second, .val (.int fr), .val (.int tt), .val (.double fa), .second, .val (.int a1), .val (.int i1), .val (.double w1), .second, .val (.int a2), .val (.int i2), .val (.double w2), .second, .val (.int in0), .val (.int in1), .val (.int in2), .val (.ref b9), .val (.ref b19), .val (.ref b33), .val (.ref b46), .val (.ref b62), .unset, .unset, .unset, .unset, .unset, .unset, .unset, .unset, .unset, .unset] [(.ref b81)])) _
    refine XS.dup X81.here hx rfl (hb hby at_264) rfl rfl ?_
    refine XS.iconst X81.here hx rfl (hb hby at_265) ?_
    refine XS.iload X81.here hx rfl (hb hby at_266) rfl ?_
    show Steps p.tables e below (T81.setTop (mkF m 268 #[.val (.int p0), .val (.int p1), .val (.int p2), .val (.int p3), .val (.int p4), .val (.int r0), .val (.int r1), .val (.int r2), .val (.double u0), .second, .val (.double u1), .second, .val (.double u2), .second, .val (.int fr), .val (.int tt), .val (.double fa), .second, .val (.int a1), .val (.int i1), .val (.double w1), .second, .val (.int a2), .val (.int i2), .val (.double w2), .second, .val (.int in0), .val (.int in1), .val (.int in2), .val (.ref b9), .val (.ref b19), .val (.ref b33), .val (.ref b46), .val (.ref b62), .unset, .unset, .unset, .unset, .unset, .unset, .unset, .unset, .unset, .unset] [(.int in0), (.int (0 : Int32)), (.ref b81), (.ref b81)])) _
    refine st88 _ ?_
    show Steps p.tables e below (T88.setTop (mkF m 269 #[.val (.int p0), .val (.int p1), .val (.int p2), .val (.int p3), .val (.int p4), .val (.int r0), .val (.int r1), .val (.int r2), .val (.double u0), .second, .val (.double u1), .second, .val (.double u2), .second, .val (.int fr), .val (.int tt), .val (.double fa), .second, .val (.int a1), .val (.int i1), .val (.double w1), .second, .val (.int a2), .val (.int i2), .val (.double w2), .second, .val (.int in0), .val (.int in1), .val (.int in2), .val (.ref b9), .val (.ref b19), .val (.ref b33), .val (.ref b46), .val (.ref b62), .unset, .unset, .unset, .unset, .unset, .unset, .unset, .unset, .unset, .unset] [(.ref b81)])) _
    refine XS.dup X88.here hx rfl (hb hby at_269) rfl rfl ?_
    refine XS.iconst X88.here hx rfl (hb hby at_270) ?_
    refine XS.iload X88.here hx rfl (hb hby at_271) rfl ?_
    refine st96 _ ?_
    show Steps p.tables e below (T96.setTop (mkF m 274 #[.val (.int p0), .val (.int p1), .val (.int p2), .val (.int p3), .val (.int p4), .val (.int r0), .val (.int r1), .val (.int r2), .val (.double u0), .second, .val (.double u1), .second, .val (.double u2), .second, .val (.int fr), .val (.int tt), .val (.double fa), .second, .val (.int a1), .val (.int i1), .val (.double w1), .second, .val (.int a2), .val (.int i2), .val (.double w2), .second, .val (.int in0), .val (.int in1), .val (.int in2), .val (.ref b9), .val (.ref b19), .val (.ref b33), .val (.ref b46), .val (.ref b62), .unset, .unset, .unset, .unset, .unset, .unset, .unset, .unset, .unset, .unset] [(.ref b81)])) _
    refine XS.dup X96.here hx rfl (hb hby at_274) rfl rfl ?_
    show Steps p.tables e below (T96.setTop (mkF m 275 #[.val (.int p0), .val (.int p1), .val (.int p2), .val (.int p3), .val (.int p4), .val (.int r0), .val (.int r1), .val (.int r2), .val (.double u0), .second, .val (.double u1), .second, .val (.double u2), .second, .val (.int fr), .val (.int tt), .val (.double fa), .second, .val (.int a1), .val (.int i1), .val (.double w1), .second, .val (.int a2), .val (.int i2), .val (.double w2), .second, .val (.int in0), .val (.int in1), .val (.int in2), .val (.ref b9), .val (.ref b19), .val (.ref b33), .val (.ref b46), .val (.ref b62), .unset, .unset, .unset, .unset, .unset, .unset, .unset, .unset, .unset, .unset] [(.ref b81), (.ref b81)])) _
    refine XS.iconst X96.here hx rfl (hb hby at_275) ?_
    refine XS.iload X96.here hx rfl (hb hby at_276) rfl ?_
    refine st104 _ ?_
    show Steps p.tables e below (T104.setTop (mkF m 279 #[.val (.int p0), .val (.int p1), .val (.int p2), .val (.int p3), .val (.int p4), .val (.int r0), .val (.int r1), .val (.int r2), .val (.double u0), .second, .val (.double u1), .second, .val (.double u2), .second, .val (.int fr), .val (.int tt), .val (.double fa), .second, .val (.int a1), .val (.int i1), .val (.double w1), .second, .val (.int a2), .val (.int i2), .val (.double w2), .second, .val (.int in0), .val (.int in1), .val (.int in2), .val (.ref b9), .val (.ref b19), .val (.ref b33), .val (.ref b46), .val (.ref b62), .unset, .unset, .unset, .unset, .unset, .unset, .unset, .unset, .unset, .unset] [(.ref b81)])) _
    refine XS.astore X104.here hx rfl (hb hby at_279) rfl rfl (l' := #[.val (.int p0), .val (.int p1), .val (.int p2), .val (.int p3), .val (.int p4), .val (.int r0), .val (.int r1), .val (.int r2), .val (.double u0), .second, .val (.double u1), .second, .val (.double u2), .second, .val (.int fr), .val (.int tt), .val (.double fa), .second, .val (.int a1), .val (.int i1), .val (.double w1), .second, .val (.int a2), .val (.int i2), .val (.double w2), .second, .val (.int in0), .val (.int in1), .val (.int in2), .val (.ref b9), .val (.ref b19), .val (.ref b33), .val (.ref b46), .val (.ref b62), .val (.ref b81), .unset, .unset, .unset, .unset, .unset, .unset, .unset, .unset, .unset]) rfl ?_
    refine st111 _ ?_
    show Steps p.tables e below (T111.setTop (mkF m 284 #[.val (.int p0), .val (.int p1), .val (.int p2), .val (.int p3), .val (.int p4), .val (.int r0), .val (.int r1), .val (.int r2), .val (.double u0), .second, .val (.double u1), .second, .val (.double u2), .second, .val (.int fr), .val (.int tt), .val (.double fa), .second, .val (.int a1), .val (.int i1), .val (.double w1), .second, .val (.int a2), .val (.int i2), .val (.double w2), .second, .val (.int in0), .val (.int in1), .val (.int in2), .val (.ref b9), .val (.ref b19), .val (.ref b33), .val (.ref b46), .val (.ref b62), .val (.ref b81), .unset, .unset, .unset, .unset, .unset, .unset, .unset, .unset, .unset] [(.ref b111)])) _
    refine XS.dup X111.here hx rfl (hb hby at_284) rfl rfl ?_
    show Steps p.tables e below (T111.setTop (mkF m 285 #[.val (.int p0), .val (.int p1), .val (.int p2), .val (.int p3), .val (.int p4), .val (.int r0), .val (.int r1), .val (.int r2), .val (.double u0), .second, .val (.double u1), .second, .val (.double u2), .second, .val (.int fr), .val (.int tt), .val (.double fa), .second, .val (.int a1), .val (.int i1), .val (.double w1), .second, .val (.int a2), .val (.int i2), .val (.double w2), .second, .val (.int in0), .val (.int in1), .val (.int in2), .val (.ref b9), .val (.ref b19), .val (.ref b33), .val (.ref b46), .val (.ref b62), .val (.ref b81), .unset, .unset, .unset, .unset, .unset, .unset, .unset, .unset, .unset] [(.ref b111), (.ref b111)])) _
    refine XS.iconst X111.here hx rfl (hb hby at_285) ?_
    refine st118.trans ?_
    show Steps p.tables e below (T118.setTop (mkF m 289 #[.val (.int p0), .val (.int p1), .val (.int p2), .val (.int p3), .val (.int p4), .val (.int r0), .val (.int r1), .val (.int r2), .val (.double u0), .second, .val (.double u1), .second, .val (.double u2), .second, .val (.int fr), .val (.int tt), .val (.double fa), .second, .val (.int a1), .val (.int i1), .val (.double w1), .second, .val (.int a2), .val (.int i2), .val (.double w2), .second, .val (.int in0), .val (.int in1), .val (.int in2), .val (.ref b9), .val (.ref b19), .val (.ref b33), .val (.ref b46), .val (.ref b62), .val (.ref b81), .unset, .unset, .unset, .unset, .unset, .unset, .unset, .unset, .unset] [(.ref b111)])) _
    refine XS.astore X118.here hx rfl (hb hby at_289) rfl rfl (l' := #[.val (.int p0), .val (.int p1), .val (.int p2), .val (.int p3), .val (.int p4), .val (.int r0), .val (.int r1), .val (.int r2), .val (.double u0), .second, .val (.double u1), .second, .val (.double u2), .second, .val (.int fr), .val (.int tt), .val (.double fa), .second, .val (.int a1), .val (.int i1), .val (.double w1), .second, .val (.int a2), .val (.int i2), .val (.double w2), .second, .val (.int in0), .val (.int in1), .val (.int in2), .val (.ref b9), .val (.ref b19), .val (.ref b33), .val (.ref b46), .val (.ref b62), .val (.ref b81), .val (.ref b111), .unset, .unset, .unset, .unset, .unset, .unset, .unset, .unset]) rfl ?_
    show Steps p.tables e below (T118.setTop (mkF m 291 #[.val (.int p0), .val (.int p1), .val (.int p2), .val (.int p3), .val (.int p4), .val (.int r0), .val (.int r1), .val (.int r2), .val (.double u0), .second, .val (.double u1), .second, .val (.double u2), .second, .val (.int fr), .val (.int tt), .val (.double fa), .second, .val (.int a1), .val (.int i1), .val (.double w1), .second, .val (.int a2), .val (.int i2), .val (.double w2), .second, .val (.int in0), .val (.int in1), .val (.int in2), .val (.ref b9), .val (.ref b19), .val (.ref b33), .val (.ref b46), .val (.ref b62), .val (.ref b81), .val (.ref b111), .unset, .unset, .unset, .unset, .unset, .unset, .unset, .unset] [])) _
    refine st140 _ ?_
    show Steps p.tables e below (T140.setTop (mkF m 305 #[.val (.int p0), .val (.int p1), .val (.int p2), .val (.int p3), .val (.int p4), .val (.int r0), .val (.int r1), .val (.int r2), .val (.double u0), .second, .val (.double u1), .second, .val (.double u2), .second, .val (.int fr), .val (.int tt), .val (.double fa), .second, .val (.int a1), .val (.int i1), .val (.double w1), .second, .val (.int a2), .val (.int i2), .val (.double w2), .second, .val (.int in0), .val (.int in1), .val (.int in2), .val (.ref b9), .val (.ref b19), .val (.ref b33), .val (.ref b46), .val (.ref b62), .val (.ref b81), .val (.ref b111), .unset, .unset, .unset, .unset, .unset, .unset, .unset, .unset] [])) _
    show Steps p.tables e below (T140.setTop (mkF m 305 #[.val (.int p0), .val (.int p1), .val (.int p2), .val (.int p3), .val (.int p4), .val (.int r0), .val (.int r1), .val (.int r2), .val (.double u0), .second, .val (.double u1), .second, .val (.double u2), .second, .val (.int fr), .val (.int tt), .val (.double fa), .second, .val (.int a1), .val (.int i1), .val (.double w1), .second, .val (.int a2), .val (.int i2), .val (.double w2), .second, .val (.int in0), .val (.int in1), .val (.int in2), .val (.ref b9), .val (.ref b19), .val (.ref b33), .val (.ref b46), .val (.ref b62), .val (.ref b81), .val (.ref b111), .unset, .unset, .unset, .unset, .unset, .unset, .unset, .unset] [])) _
    refine st156 _ ?_
    show Steps p.tables e below (T156.setTop (mkF m 319 #[.val (.int p0), .val (.int p1), .val (.int p2), .val (.int p3), .val (.int p4), .val (.int r0), .val (.int r1), .val (.int r2), .val (.double u0), .second, .val (.double u1), .second, .val (.double u2), .second, .val (.int fr), .val (.int tt), .val (.double fa), .second, .val (.int a1), .val (.int i1), .val (.double w1), .second, .val (.int a2), .val (.int i2), .val (.double w2), .second, .val (.int in0), .val (.int in1), .val (.int in2), .val (.ref b9), .val (.ref b19), .val (.ref b33), .val (.ref b46), .val (.ref b62), .val (.ref b81), .val (.ref b111), .unset, .unset, .unset, .unset, .unset, .unset, .unset, .unset] [])) _
    show Steps p.tables e below (T156.setTop (mkF m 319 #[.val (.int p0), .val (.int p1), .val (.int p2), .val (.int p3), .val (.int p4), .val (.int r0), .val (.int r1), .val (.int r2), .val (.double u0), .second, .val (.double u1), .second, .val (.double u2), .second, .val (.int fr), .val (.int tt), .val (.double fa), .second, .val (.int a1), .val (.int i1), .val (.double w1), .second, .val (.int a2), .val (.int i2), .val (.double w2), .second, .val (.int in0), .val (.int in1), .val (.int in2), .val (.ref b9), .val (.ref b19), .val (.ref b33), .val (.ref b46), .val (.ref b62), .val (.ref b81), .val (.ref b111), .unset, .unset, .unset, .unset, .unset, .unset, .unset, .unset] [])) _
    refine XS.aload X156.here hx rfl (hb hby at_319) rfl rfl ?_
    refine XS.aload X156.here hx rfl (hb hby at_321) rfl rfl ?_
    refine XS.aload X156.here hx rfl (hb hby at_323) rfl rfl ?_
    refine XS.iload X156.here hx rfl (hb hby at_325) rfl ?_
    refine XS.iload X156.here hx rfl (hb hby at_327) rfl ?_
    show Steps p.tables e below (T156.setTop (mkF m 329 #[.val (.int p0), .val (.int p1), .val (.int p2), .val (.int p3), .val (.int p4), .val (.int r0), .val (.int r1), .val (.int r2), .val (.double u0), .second, .val (.double u1), .second, .val (.double u2), .second, .val (.int fr), .val (.int tt), .val (.double fa), .second, .val (.int a1), .val (.int i1), .val (.double w1), .second, .val (.int a2), .val (.int i2), .val (.double w2), .second, .val (.int in0), .val (.int in1), .val (.int in2), .val (.ref b9), .val (.ref b19), .val (.ref b33), .val (.ref b46), .val (.ref b62), .val (.ref b81), .val (.ref b111), .unset, .unset, .unset, .unset, .unset, .unset, .unset, .unset] [(.int tt), (.int fr), (.ref b19), (.ref b9), (.ref b111)])) _
    refine XS.dload X156.here hx rfl (hb hby at_329) rfl ?_
    refine st172.trans ?_
    show Steps p.tables e below (T172.setTop (mkF m 334 #[.val (.int p0), .val (.int p1), .val (.int p2), .val (.int p3), .val (.int p4), .val (.int r0), .val (.int r1), .val (.int r2), .val (.double u0), .second, .val (.double u1), .second, .val (.double u2), .second, .val (.int fr), .val (.int tt), .val (.double fa), .second, .val (.int a1), .val (.int i1), .val (.double w1), .second, .val (.int a2), .val (.int i2), .val (.double w2), .second, .val (.int in0), .val (.int in1), .val (.int in2), .val (.ref b9), .val (.ref b19), .val (.ref b33), .val (.ref b46), .val (.ref b62), .val (.ref b81), .val (.ref b111), .unset, .unset, .unset, .unset, .unset, .unset, .unset, .unset] [])) _
    refine XS.aload X172.here hx rfl (hb hby at_334) rfl rfl ?_
    refine st188.trans ?_
    show Steps p.tables e below (T188.setTop (mkF m 339 #[.val (.int p0), .val (.int p1), .val (.int p2), .val (.int p3), .val (.int p4), .val (.int r0), .val (.int r1), .val (.int r2), .val (.double u0), .second, .val (.double u1), .second, .val (.double u2), .second, .val (.int fr), .val (.int tt), .val (.double fa), .second, .val (.int a1), .val (.int i1), .val (.double w1), .second, .val (.int a2), .val (.int i2), .val (.double w2), .second, .val (.int in0), .val (.int in1), .val (.int in2), .val (.ref b9), .val (.ref b19), .val (.ref b33), .val (.ref b46), .val (.ref b62), .val (.ref b81), .val (.ref b111), .unset, .unset, .unset, .unset, .unset, .unset, .unset, .unset] [(.ref b2_118)])) _
    refine XS.astore X188.here hx rfl (hb hby at_339) rfl rfl (l' := #[.val (.int p0), .val (.int p1), .val (.int p2), .val (.int p3), .val (.int p4), .val (.int r0), .val (.int r1), .val (.int r2), .val (.double u0), .second, .val (.double u1), .second, .val (.double u2), .second, .val (.int fr), .val (.int tt), .val (.double fa), .second, .val (.int a1), .val (.int i1), .val (.double w1), .second, .val (.int a2), .val (.int i2), .val (.double w2), .second, .val (.int in0), .val (.int in1), .val (.int in2), .val (.ref b9), .val (.ref b19), .val (.ref b33), .val (.ref b46), .val (.ref b62), .val (.ref b81), .val (.ref b111), .val (.ref b2_118), .unset, .unset, .unset, .unset, .unset, .unset, .unset]) rfl ?_
    refine XS.aload X188.here hx rfl (hb hby at_341) rfl rfl ?_
    show Steps p.tables e below (T188.setTop (mkF m 343 #[.val (.int p0), .val (.int p1), .val (.int p2), .val (.int p3), .val (.int p4), .val (.int r0), .val (.int r1), .val (.int r2), .val (.double u0), .second, .val (.double u1), .second, .val (.double u2), .second, .val (.int fr), .val (.int tt), .val (.double fa), .second, .val (.int a1), .val (.int i1), .val (.double w1), .second, .val (.int a2), .val (.int i2), .val (.double w2), .second, .val (.int in0), .val (.int in1), .val (.int in2), .val (.ref b9), .val (.ref b19), .val (.ref b33), .val (.ref b46), .val (.ref b62), .val (.ref b81), .val (.ref b111), .val (.ref b2_118), .unset, .unset, .unset, .unset, .unset, .unset, .unset] [(.ref b111)])) _
    refine st189.trans ?_
    show Steps p.tables e below (T189.setTop (mkF m 346 #[.val (.int p0), .val (.int p1), .val (.int p2), .val (.int p3), .val (.int p4), .val (.int r0), .val (.int r1), .val (.int r2), .val (.double u0), .second, .val (.double u1), .second, .val (.double u2), .second, .val (.int fr), .val (.int tt), .val (.double fa), .second, .val (.int a1), .val (.int i1), .val (.double w1), .second, .val (.int a2), .val (.int i2), .val (.double w2), .second, .val (.int in0), .val (.int in1), .val (.int in2), .val (.ref b9), .val (.ref b19), .val (.ref b33), .val (.ref b46), .val (.ref b62), .val (.ref b81), .val (.ref b111), .val (.ref b2_118), .unset, .unset, .unset, .unset, .unset, .unset, .unset] [(.ref b30_118)])) _
    refine XS.astore X189.here hx rfl (hb hby at_346) rfl rfl (l' := #[.val (.int p0), .val (.int p1), .val (.int p2), .val (.int p3), .val (.int p4), .val (.int r0), .val (.int r1), .val (.int r2), .val (.double u0), .second, .val (.double u1), .second, .val (.double u2), .second, .val (.int fr), .val (.int tt), .val (.double fa), .second, .val (.int a1), .val (.int i1), .val (.double w1), .second, .val (.int a2), .val (.int i2), .val (.double w2), .second, .val (.int in0), .val (.int in1), .val (.int in2), .val (.ref b9), .val (.ref b19), .val (.ref b33), .val (.ref b46), .val (.ref b62), .val (.ref b81), .val (.ref b111), .val (.ref b2_118), .val (.ref b30_118), .unset, .unset, .unset, .unset, .unset, .unset]) rfl ?_
    refine XS.aload X189.here hx rfl (hb hby at_348) rfl rfl ?_
    refine st190.trans ?_
    show Steps p.tables e below (T190.setTop (mkF m 353 #[.val (.int p0), .val (.int p1), .val (.int p2), .val (.int p3), .val (.int p4), .val (.int r0), .val (.int r1), .val (.int r2), .val (.double u0), .second, .val (.double u1), .second, .val (.double u2), .second, .val (.int fr), .val (.int tt), .val (.double fa), .second, .val (.int a1), .val (.int i1), .val (.double w1), .second, .val (.int a2), .val (.int i2), .val (.double w2), .second, .val (.int in0), .val (.int in1), .val (.int in2), .val (.ref b9), .val (.ref b19), .val (.ref b33), .val (.ref b46), .val (.ref b62), .val (.ref b81), .val (.ref b111), .val (.ref b2_118), .val (.ref b30_118), .unset, .unset, .unset, .unset, .unset, .unset] [(.int SF.1)])) _
    refine XS.istore X190.here hx rfl (hb hby at_353) rfl (l' := #[.val (.int p0), .val (.int p1), .val (.int p2), .val (.int p3), .val (.int p4), .val (.int r0), .val (.int r1), .val (.int r2), .val (.double u0), .second, .val (.double u1), .second, .val (.double u2), .second, .val (.int fr), .val (.int tt), .val (.double fa), .second, .val (.int a1), .val (.int i1), .val (.double w1), .second, .val (.int a2), .val (.int i2), .val (.double w2), .second, .val (.int in0), .val (.int in1), .val (.int in2), .val (.ref b9), .val (.ref b19), .val (.ref b33), .val (.ref b46), .val (.ref b62), .val (.ref b81), .val (.ref b111), .val (.ref b2_118), .val (.ref b30_118), .val (.int SF.1), .unset, .unset, .unset, .unset, .unset]) rfl ?_
    refine XS.iload X190.here hx rfl (hb hby at_355) rfl ?_
    show Steps p.tables e below (T190.setTop (mkF m 357 #[.val (.int p0), .val (.int p1), .val (.int p2), .val (.int p3), .val (.int p4), .val (.int r0), .val (.int r1), .val (.int r2), .val (.double u0), .second, .val (.double u1), .second, .val (.double u2), .second, .val (.int fr), .val (.int tt), .val (.double fa), .second, .val (.int a1), .val (.int i1), .val (.double w1), .second, .val (.int a2), .val (.int i2), .val (.double w2), .second, .val (.int in0), .val (.int in1), .val (.int in2), .val (.ref b9), .val (.ref b19), .val (.ref b33), .val (.ref b46), .val (.ref b62), .val (.ref b81), .val (.ref b111), .val (.ref b2_118), .val (.ref b30_118), .val (.int SF.1), .unset, .unset, .unset, .unset, .unset] [(.int SF.1)])) _
    refine XS.ifNo X190.here hx rfl (hb hby at_357) rfl ((if0 _ _).trans (flt hc357).1) ?_
    refine XS.iload X190.here hx rfl (hb hby at_360) rfl ?_
    refine XS.iconst X190.here hx rfl (hb hby at_362) ?_
    refine XS.icmpNo X190.here hx rfl (hb hby at_363) rfl (flt hc363).2.2.1 ?_
    refine XS.aload X190.here hx rfl (hb hby at_366) rfl rfl ?_
    refine X190.arraylength hx (by rw [e190]; exact Arq193.1) (State.isArrayOf_alike hZ.alike Arq193.2.1) (g := (mkF m 368 #[.val (.int p0), .val (.int p1), .val (.int p2), .val (.int p3), .val (.int p4), .val (.int r0), .val (.int r1), .val (.int r2), .val (.double u0), .second, .val (.double u1), .second, .val (.double u2), .second, .val (.int fr), .val (.int tt), .val (.double fa), .second, .val (.int a1), .val (.int i1), .val (.double w1), .second, .val (.int a2), .val (.int i2), .val (.double w2), .second, .val (.int in0), .val (.int in1), .val (.int in2), .val (.ref b9), .val (.ref b19), .val (.ref b33), .val (.ref b46), .val (.ref b62), .val (.ref b81), .val (.ref b111), .val (.ref b2_118), .val (.ref b30_118), .val (.int SF.1), .unset, .unset, .unset, .unset, .unset] [(.ref b2_118)])) rfl rfl (hb hby at_368) _ ?_
    rw [len_of Sq193 Nq193]
    show Steps p.tables e below (T190.setTop (mkF m 369 #[.val (.int p0), .val (.int p1), .val (.int p2), .val (.int p3), .val (.int p4), .val (.int r0), .val (.int r1), .val (.int r2), .val (.double u0), .second, .val (.double u1), .second, .val (.double u2), .second, .val (.int fr), .val (.int tt), .val (.double fa), .second, .val (.int a1), .val (.int i1), .val (.double w1), .second, .val (.int a2), .val (.int i2), .val (.double w2), .second, .val (.int in0), .val (.int in1), .val (.int in2), .val (.ref b9), .val (.ref b19), .val (.ref b33), .val (.ref b46), .val (.ref b62), .val (.ref b81), .val (.ref b111), .val (.ref b2_118), .val (.ref b30_118), .val (.int SF.1), .unset, .unset, .unset, .unset, .unset] [(.int (4 : Int32))])) _
    refine XS.iconst X190.here hx rfl (hb hby at_369) ?_
    refine XS.icmpNo X190.here hx rfl (hb hby at_370) rfl (teq (by decide : (4 : Int32) = (4 : Int32))).2 ?_
    refine XS.aload X190.here hx rfl (hb hby at_373) rfl rfl ?_
    refine X190.arraylength hx (by rw [e190]; exact Arq194.1) (State.isArrayOf_alike hZ.alike Arq194.2.1) (g := (mkF m 375 #[.val (.int p0), .val (.int p1), .val (.int p2), .val (.int p3), .val (.int p4), .val (.int r0), .val (.int r1), .val (.int r2), .val (.double u0), .second, .val (.double u1), .second, .val (.double u2), .second, .val (.int fr), .val (.int tt), .val (.double fa), .second, .val (.int a1), .val (.int i1), .val (.double w1), .second, .val (.int a2), .val (.int i2), .val (.double w2), .second, .val (.int in0), .val (.int in1), .val (.int in2), .val (.ref b9), .val (.ref b19), .val (.ref b33), .val (.ref b46), .val (.ref b62), .val (.ref b81), .val (.ref b111), .val (.ref b2_118), .val (.ref b30_118), .val (.int SF.1), .unset, .unset, .unset, .unset, .unset] [(.ref b30_118)])) rfl rfl (hb hby at_375) _ ?_
    rw [len_of Sq194 Nq194]
    show Steps p.tables e below (T190.setTop (mkF m 376 #[.val (.int p0), .val (.int p1), .val (.int p2), .val (.int p3), .val (.int p4), .val (.int r0), .val (.int r1), .val (.int r2), .val (.double u0), .second, .val (.double u1), .second, .val (.double u2), .second, .val (.int fr), .val (.int tt), .val (.double fa), .second, .val (.int a1), .val (.int i1), .val (.double w1), .second, .val (.int a2), .val (.int i2), .val (.double w2), .second, .val (.int in0), .val (.int in1), .val (.int in2), .val (.ref b9), .val (.ref b19), .val (.ref b33), .val (.ref b46), .val (.ref b62), .val (.ref b81), .val (.ref b111), .val (.ref b2_118), .val (.ref b30_118), .val (.int SF.1), .unset, .unset, .unset, .unset, .unset] [(.int (4 : Int32))])) _
    refine XS.iconst X190.here hx rfl (hb hby at_376) ?_
    refine XS.icmpYes X190.here hx rfl (pc0 := 377) (pc' := 382) rfl (hb hby at_377) rfl (teq (by decide : (4 : Int32) = (4 : Int32))).1 (by decide) (by decide) ?_
    show Steps p.tables e below (T190.setTop (mkF m 382 #[.val (.int p0), .val (.int p1), .val (.int p2), .val (.int p3), .val (.int p4), .val (.int r0), .val (.int r1), .val (.int r2), .val (.double u0), .second, .val (.double u1), .second, .val (.double u2), .second, .val (.int fr), .val (.int tt), .val (.double fa), .second, .val (.int a1), .val (.int i1), .val (.double w1), .second, .val (.int a2), .val (.int i2), .val (.double w2), .second, .val (.int in0), .val (.int in1), .val (.int in2), .val (.ref b9), .val (.ref b19), .val (.ref b33), .val (.ref b46), .val (.ref b62), .val (.ref b81), .val (.ref b111), .val (.ref b2_118), .val (.ref b30_118), .val (.int SF.1), .unset, .unset, .unset, .unset, .unset] [])) _
    refine XS.iconst X190.here hx rfl (hb hby at_382) ?_
    refine XS.aload X190.here hx rfl (hb hby at_383) rfl rfl ?_
    refine XS.aload X190.here hx rfl (hb hby at_385) rfl rfl ?_
    refine XS.aload X190.here hx rfl (hb hby at_387) rfl rfl ?_
    refine XS.aload X190.here hx rfl (hb hby at_389) rfl rfl ?_
    refine st195 _ ?_
    show Steps p.tables e below (T195.setTop (mkF m 394 #[.val (.int p0), .val (.int p1), .val (.int p2), .val (.int p3), .val (.int p4), .val (.int r0), .val (.int r1), .val (.int r2), .val (.double u0), .second, .val (.double u1), .second, .val (.double u2), .second, .val (.int fr), .val (.int tt), .val (.double fa), .second, .val (.int a1), .val (.int i1), .val (.double w1), .second, .val (.int a2), .val (.int i2), .val (.double w2), .second, .val (.int in0), .val (.int in1), .val (.int in2), .val (.ref b9), .val (.ref b19), .val (.ref b33), .val (.ref b46), .val (.ref b62), .val (.ref b81), .val (.ref b111), .val (.ref b2_118), .val (.ref b30_118), .val (.int SF.1), .unset, .unset, .unset, .unset, .unset] [(.int lz0)])) _
    refine XS.istore X195.here hx rfl (hb hby at_394) rfl (l' := #[.val (.int p0), .val (.int p1), .val (.int p2), .val (.int p3), .val (.int p4), .val (.int r0), .val (.int r1), .val (.int r2), .val (.double u0), .second, .val (.double u1), .second, .val (.double u2), .second, .val (.int fr), .val (.int tt), .val (.double fa), .second, .val (.int a1), .val (.int i1), .val (.double w1), .second, .val (.int a2), .val (.int i2), .val (.double w2), .second, .val (.int in0), .val (.int in1), .val (.int in2), .val (.ref b9), .val (.ref b19), .val (.ref b33), .val (.ref b46), .val (.ref b62), .val (.ref b81), .val (.ref b111), .val (.ref b2_118), .val (.ref b30_118), .val (.int SF.1), .val (.int lz0), .unset, .unset, .unset, .unset]) rfl ?_
    refine XS.iconst X195.here hx rfl (hb hby at_396) ?_
    refine XS.aload X195.here hx rfl (hb hby at_397) rfl rfl ?_
    refine XS.aload X195.here hx rfl (hb hby at_399) rfl rfl ?_
    refine XS.aload X195.here hx rfl (hb hby at_401) rfl rfl ?_
    refine XS.aload X195.here hx rfl (hb hby at_403) rfl rfl ?_
    show Steps p.tables e below (T195.setTop (mkF m 405 #[.val (.int p0), .val (.int p1), .val (.int p2), .val (.int p3), .val (.int p4), .val (.int r0), .val (.int r1), .val (.int r2), .val (.double u0), .second, .val (.double u1), .second, .val (.double u2), .second, .val (.int fr), .val (.int tt), .val (.double fa), .second, .val (.int a1), .val (.int i1), .val (.double w1), .second, .val (.int a2), .val (.int i2), .val (.double w2), .second, .val (.int in0), .val (.int in1), .val (.int in2), .val (.ref b9), .val (.ref b19), .val (.ref b33), .val (.ref b46), .val (.ref b62), .val (.ref b81), .val (.ref b111), .val (.ref b2_118), .val (.ref b30_118), .val (.int SF.1), .val (.int lz0), .unset, .unset, .unset, .unset] [(.ref b9), (.ref b81), (.ref b46), (.ref b33), (.int (1 : Int32))])) _
    refine st196 _ ?_
    show Steps p.tables e below (T196.setTop (mkF m 408 #[.val (.int p0), .val (.int p1), .val (.int p2), .val (.int p3), .val (.int p4), .val (.int r0), .val (.int r1), .val (.int r2), .val (.double u0), .second, .val (.double u1), .second, .val (.double u2), .second, .val (.int fr), .val (.int tt), .val (.double fa), .second, .val (.int a1), .val (.int i1), .val (.double w1), .second, .val (.int a2), .val (.int i2), .val (.double w2), .second, .val (.int in0), .val (.int in1), .val (.int in2), .val (.ref b9), .val (.ref b19), .val (.ref b33), .val (.ref b46), .val (.ref b62), .val (.ref b81), .val (.ref b111), .val (.ref b2_118), .val (.ref b30_118), .val (.int SF.1), .val (.int lz0), .unset, .unset, .unset, .unset] [(.int lz1)])) _
    refine XS.istore X196.here hx rfl (hb hby at_408) rfl (l' := #[.val (.int p0), .val (.int p1), .val (.int p2), .val (.int p3), .val (.int p4), .val (.int r0), .val (.int r1), .val (.int r2), .val (.double u0), .second, .val (.double u1), .second, .val (.double u2), .second, .val (.int fr), .val (.int tt), .val (.double fa), .second, .val (.int a1), .val (.int i1), .val (.double w1), .second, .val (.int a2), .val (.int i2), .val (.double w2), .second, .val (.int in0), .val (.int in1), .val (.int in2), .val (.ref b9), .val (.ref b19), .val (.ref b33), .val (.ref b46), .val (.ref b62), .val (.ref b81), .val (.ref b111), .val (.ref b2_118), .val (.ref b30_118), .val (.int SF.1), .val (.int lz0), .val (.int lz1), .unset, .unset, .unset]) rfl ?_
    refine XS.iconst X196.here hx rfl (hb hby at_410) ?_
    refine XS.aload X196.here hx rfl (hb hby at_411) rfl rfl ?_
    refine XS.aload X196.here hx rfl (hb hby at_413) rfl rfl ?_
    refine XS.aload X196.here hx rfl (hb hby at_415) rfl rfl ?_
    show Steps p.tables e below (T196.setTop (mkF m 417 #[.val (.int p0), .val (.int p1), .val (.int p2), .val (.int p3), .val (.int p4), .val (.int r0), .val (.int r1), .val (.int r2), .val (.double u0), .second, .val (.double u1), .second, .val (.double u2), .second, .val (.int fr), .val (.int tt), .val (.double fa), .second, .val (.int a1), .val (.int i1), .val (.double w1), .second, .val (.int a2), .val (.int i2), .val (.double w2), .second, .val (.int in0), .val (.int in1), .val (.int in2), .val (.ref b9), .val (.ref b19), .val (.ref b33), .val (.ref b46), .val (.ref b62), .val (.ref b81), .val (.ref b111), .val (.ref b2_118), .val (.ref b30_118), .val (.int SF.1), .val (.int lz0), .val (.int lz1), .unset, .unset, .unset] [(.ref b81), (.ref b46), (.ref b33), (.int (2 : Int32))])) _
    refine XS.aload X196.here hx rfl (hb hby at_417) rfl rfl ?_
    refine st197 _ ?_
    show Steps p.tables e below (T197.setTop (mkF m 422 #[.val (.int p0), .val (.int p1), .val (.int p2), .val (.int p3), .val (.int p4), .val (.int r0), .val (.int r1), .val (.int r2), .val (.double u0), .second, .val (.double u1), .second, .val (.double u2), .second, .val (.int fr), .val (.int tt), .val (.double fa), .second, .val (.int a1), .val (.int i1), .val (.double w1), .second, .val (.int a2), .val (.int i2), .val (.double w2), .second, .val (.int in0), .val (.int in1), .val (.int in2), .val (.ref b9), .val (.ref b19), .val (.ref b33), .val (.ref b46), .val (.ref b62), .val (.ref b81), .val (.ref b111), .val (.ref b2_118), .val (.ref b30_118), .val (.int SF.1), .val (.int lz0), .val (.int lz1), .unset, .unset, .unset] [(.int lz2)])) _
    refine XS.istore X197.here hx rfl (hb hby at_422) rfl (l' := #[.val (.int p0), .val (.int p1), .val (.int p2), .val (.int p3), .val (.int p4), .val (.int r0), .val (.int r1), .val (.int r2), .val (.double u0), .second, .val (.double u1), .second, .val (.double u2), .second, .val (.int fr), .val (.int tt), .val (.double fa), .second, .val (.int a1), .val (.int i1), .val (.double w1), .second, .val (.int a2), .val (.int i2), .val (.double w2), .second, .val (.int in0), .val (.int in1), .val (.int in2), .val (.ref b9), .val (.ref b19), .val (.ref b33), .val (.ref b46), .val (.ref b62), .val (.ref b81), .val (.ref b111), .val (.ref b2_118), .val (.ref b30_118), .val (.int SF.1), .val (.int lz0), .val (.int lz1), .val (.int lz2), .unset, .unset]) rfl ?_
    refine XS.iconst X197.here hx rfl (hb hby at_424) ?_
    refine XS.aload X197.here hx rfl (hb hby at_425) rfl rfl ?_
    refine XS.aload X197.here hx rfl (hb hby at_427) rfl rfl ?_
    show Steps p.tables e below (T197.setTop (mkF m 429 #[.val (.int p0), .val (.int p1), .val (.int p2), .val (.int p3), .val (.int p4), .val (.int r0), .val (.int r1), .val (.int r2), .val (.double u0), .second, .val (.double u1), .second, .val (.double u2), .second, .val (.int fr), .val (.int tt), .val (.double fa), .second, .val (.int a1), .val (.int i1), .val (.double w1), .second, .val (.int a2), .val (.int i2), .val (.double w2), .second, .val (.int in0), .val (.int in1), .val (.int in2), .val (.ref b9), .val (.ref b19), .val (.ref b33), .val (.ref b46), .val (.ref b62), .val (.ref b81), .val (.ref b111), .val (.ref b2_118), .val (.ref b30_118), .val (.int SF.1), .val (.int lz0), .val (.int lz1), .val (.int lz2), .unset, .unset] [(.ref b46), (.ref b33), (.int (3 : Int32))])) _
    refine XS.aload X197.here hx rfl (hb hby at_429) rfl rfl ?_
    refine XS.aload X197.here hx rfl (hb hby at_431) rfl rfl ?_
    refine st198 _ ?_
    show Steps p.tables e below (T198.setTop (mkF m 436 #[.val (.int p0), .val (.int p1), .val (.int p2), .val (.int p3), .val (.int p4), .val (.int r0), .val (.int r1), .val (.int r2), .val (.double u0), .second, .val (.double u1), .second, .val (.double u2), .second, .val (.int fr), .val (.int tt), .val (.double fa), .second, .val (.int a1), .val (.int i1), .val (.double w1), .second, .val (.int a2), .val (.int i2), .val (.double w2), .second, .val (.int in0), .val (.int in1), .val (.int in2), .val (.ref b9), .val (.ref b19), .val (.ref b33), .val (.ref b46), .val (.ref b62), .val (.ref b81), .val (.ref b111), .val (.ref b2_118), .val (.ref b30_118), .val (.int SF.1), .val (.int lz0), .val (.int lz1), .val (.int lz2), .unset, .unset] [(.int lz3)])) _
    refine XS.istore X198.here hx rfl (hb hby at_436) rfl (l' := #[.val (.int p0), .val (.int p1), .val (.int p2), .val (.int p3), .val (.int p4), .val (.int r0), .val (.int r1), .val (.int r2), .val (.double u0), .second, .val (.double u1), .second, .val (.double u2), .second, .val (.int fr), .val (.int tt), .val (.double fa), .second, .val (.int a1), .val (.int i1), .val (.double w1), .second, .val (.int a2), .val (.int i2), .val (.double w2), .second, .val (.int in0), .val (.int in1), .val (.int in2), .val (.ref b9), .val (.ref b19), .val (.ref b33), .val (.ref b46), .val (.ref b62), .val (.ref b81), .val (.ref b111), .val (.ref b2_118), .val (.ref b30_118), .val (.int SF.1), .val (.int lz0), .val (.int lz1), .val (.int lz2), .val (.int lz3), .unset]) rfl ?_
    refine XS.iload X198.here hx rfl (hb hby at_438) rfl ?_
    show Steps p.tables e below (T198.setTop (mkF m 440 #[.val (.int p0), .val (.int p1), .val (.int p2), .val (.int p3), .val (.int p4), .val (.int r0), .val (.int r1), .val (.int r2), .val (.double u0), .second, .val (.double u1), .second, .val (.double u2), .second, .val (.int fr), .val (.int tt), .val (.double fa), .second, .val (.int a1), .val (.int i1), .val (.double w1), .second, .val (.int a2), .val (.int i2), .val (.double w2), .second, .val (.int in0), .val (.int in1), .val (.int in2), .val (.ref b9), .val (.ref b19), .val (.ref b33), .val (.ref b46), .val (.ref b62), .val (.ref b81), .val (.ref b111), .val (.ref b2_118), .val (.ref b30_118), .val (.int SF.1), .val (.int lz0), .val (.int lz1), .val (.int lz2), .val (.int lz3), .unset] [(.int lz0)])) _
    refine jn199 _ ?_
    show Steps p.tables e below (T198.setTop (mkF m 448 #[.val (.int p0), .val (.int p1), .val (.int p2), .val (.int p3), .val (.int p4), .val (.int r0), .val (.int r1), .val (.int r2), .val (.double u0), .second, .val (.double u1), .second, .val (.double u2), .second, .val (.int fr), .val (.int tt), .val (.double fa), .second, .val (.int a1), .val (.int i1), .val (.double w1), .second, .val (.int a2), .val (.int i2), .val (.double w2), .second, .val (.int in0), .val (.int in1), .val (.int in2), .val (.ref b9), .val (.ref b19), .val (.ref b33), .val (.ref b46), .val (.ref b62), .val (.ref b81), .val (.ref b111), .val (.ref b2_118), .val (.ref b30_118), .val (.int SF.1), .val (.int lz0), .val (.int lz1), .val (.int lz2), .val (.int lz3), .unset] [(.int tz0)])) _
    refine XS.iload X198.here hx rfl (hb hby at_448) rfl ?_
    show Steps p.tables e below (T198.setTop (mkF m 450 #[.val (.int p0), .val (.int p1), .val (.int p2), .val (.int p3), .val (.int p4), .val (.int r0), .val (.int r1), .val (.int r2), .val (.double u0), .second, .val (.double u1), .second, .val (.double u2), .second, .val (.int fr), .val (.int tt), .val (.double fa), .second, .val (.int a1), .val (.int i1), .val (.double w1), .second, .val (.int a2), .val (.int i2), .val (.double w2), .second, .val (.int in0), .val (.int in1), .val (.int in2), .val (.ref b9), .val (.ref b19), .val (.ref b33), .val (.ref b46), .val (.ref b62), .val (.ref b81), .val (.ref b111), .val (.ref b2_118), .val (.ref b30_118), .val (.int SF.1), .val (.int lz0), .val (.int lz1), .val (.int lz2), .val (.int lz3), .unset] [(.int lz1), (.int tz0)])) _
    refine jn200 _ ?_
    show Steps p.tables e below (T198.setTop (mkF m 458 #[.val (.int p0), .val (.int p1), .val (.int p2), .val (.int p3), .val (.int p4), .val (.int r0), .val (.int r1), .val (.int r2), .val (.double u0), .second, .val (.double u1), .second, .val (.double u2), .second, .val (.int fr), .val (.int tt), .val (.double fa), .second, .val (.int a1), .val (.int i1), .val (.double w1), .second, .val (.int a2), .val (.int i2), .val (.double w2), .second, .val (.int in0), .val (.int in1), .val (.int in2), .val (.ref b9), .val (.ref b19), .val (.ref b33), .val (.ref b46), .val (.ref b62), .val (.ref b81), .val (.ref b111), .val (.ref b2_118), .val (.ref b30_118), .val (.int SF.1), .val (.int lz0), .val (.int lz1), .val (.int lz2), .val (.int lz3), .unset] [(.int tz1), (.int tz0)])) _
    refine XS.iadd X198.here hx rfl (hb hby at_458) rfl ?_
    refine XS.iload X198.here hx rfl (hb hby at_459) rfl ?_
    show Steps p.tables e below (T198.setTop (mkF m 461 #[.val (.int p0), .val (.int p1), .val (.int p2), .val (.int p3), .val (.int p4), .val (.int r0), .val (.int r1), .val (.int r2), .val (.double u0), .second, .val (.double u1), .second, .val (.double u2), .second, .val (.int fr), .val (.int tt), .val (.double fa), .second, .val (.int a1), .val (.int i1), .val (.double w1), .second, .val (.int a2), .val (.int i2), .val (.double w2), .second, .val (.int in0), .val (.int in1), .val (.int in2), .val (.ref b9), .val (.ref b19), .val (.ref b33), .val (.ref b46), .val (.ref b62), .val (.ref b81), .val (.ref b111), .val (.ref b2_118), .val (.ref b30_118), .val (.int SF.1), .val (.int lz0), .val (.int lz1), .val (.int lz2), .val (.int lz3), .unset] [(.int lz2), (.int (tz0 + tz1))])) _
    refine jn201 _ ?_
    show Steps p.tables e below (T198.setTop (mkF m 469 #[.val (.int p0), .val (.int p1), .val (.int p2), .val (.int p3), .val (.int p4), .val (.int r0), .val (.int r1), .val (.int r2), .val (.double u0), .second, .val (.double u1), .second, .val (.double u2), .second, .val (.int fr), .val (.int tt), .val (.double fa), .second, .val (.int a1), .val (.int i1), .val (.double w1), .second, .val (.int a2), .val (.int i2), .val (.double w2), .second, .val (.int in0), .val (.int in1), .val (.int in2), .val (.ref b9), .val (.ref b19), .val (.ref b33), .val (.ref b46), .val (.ref b62), .val (.ref b81), .val (.ref b111), .val (.ref b2_118), .val (.ref b30_118), .val (.int SF.1), .val (.int lz0), .val (.int lz1), .val (.int lz2), .val (.int lz3), .unset] [(.int tz2), (.int (tz0 + tz1))])) _
    refine XS.iadd X198.here hx rfl (hb hby at_469) rfl ?_
    refine XS.iload X198.here hx rfl (hb hby at_470) rfl ?_
    show Steps p.tables e below (T198.setTop (mkF m 472 #[.val (.int p0), .val (.int p1), .val (.int p2), .val (.int p3), .val (.int p4), .val (.int r0), .val (.int r1), .val (.int r2), .val (.double u0), .second, .val (.double u1), .second, .val (.double u2), .second, .val (.int fr), .val (.int tt), .val (.double fa), .second, .val (.int a1), .val (.int i1), .val (.double w1), .second, .val (.int a2), .val (.int i2), .val (.double w2), .second, .val (.int in0), .val (.int in1), .val (.int in2), .val (.ref b9), .val (.ref b19), .val (.ref b33), .val (.ref b46), .val (.ref b62), .val (.ref b81), .val (.ref b111), .val (.ref b2_118), .val (.ref b30_118), .val (.int SF.1), .val (.int lz0), .val (.int lz1), .val (.int lz2), .val (.int lz3), .unset] [(.int lz3), (.int ((tz0 + tz1) + tz2))])) _
    refine jn202 _ ?_
    show Steps p.tables e below (T198.setTop (mkF m 480 #[.val (.int p0), .val (.int p1), .val (.int p2), .val (.int p3), .val (.int p4), .val (.int r0), .val (.int r1), .val (.int r2), .val (.double u0), .second, .val (.double u1), .second, .val (.double u2), .second, .val (.int fr), .val (.int tt), .val (.double fa), .second, .val (.int a1), .val (.int i1), .val (.double w1), .second, .val (.int a2), .val (.int i2), .val (.double w2), .second, .val (.int in0), .val (.int in1), .val (.int in2), .val (.ref b9), .val (.ref b19), .val (.ref b33), .val (.ref b46), .val (.ref b62), .val (.ref b81), .val (.ref b111), .val (.ref b2_118), .val (.ref b30_118), .val (.int SF.1), .val (.int lz0), .val (.int lz1), .val (.int lz2), .val (.int lz3), .unset] [(.int tz3), (.int ((tz0 + tz1) + tz2))])) _
    refine XS.iadd X198.here hx rfl (hb hby at_480) rfl ?_
    refine XS.istore X198.here hx rfl (hb hby at_481) rfl (l' := #[.val (.int p0), .val (.int p1), .val (.int p2), .val (.int p3), .val (.int p4), .val (.int r0), .val (.int r1), .val (.int r2), .val (.double u0), .second, .val (.double u1), .second, .val (.double u2), .second, .val (.int fr), .val (.int tt), .val (.double fa), .second, .val (.int a1), .val (.int i1), .val (.double w1), .second, .val (.int a2), .val (.int i2), .val (.double w2), .second, .val (.int in0), .val (.int in1), .val (.int in2), .val (.ref b9), .val (.ref b19), .val (.ref b33), .val (.ref b46), .val (.ref b62), .val (.ref b81), .val (.ref b111), .val (.ref b2_118), .val (.ref b30_118), .val (.int SF.1), .val (.int lz0), .val (.int lz1), .val (.int lz2), .val (.int lz3), .val (.int (((tz0 + tz1) + tz2) + tz3))]) rfl ?_
    show Steps p.tables e below (T198.setTop (mkF m 483 #[.val (.int p0), .val (.int p1), .val (.int p2), .val (.int p3), .val (.int p4), .val (.int r0), .val (.int r1), .val (.int r2), .val (.double u0), .second, .val (.double u1), .second, .val (.double u2), .second, .val (.int fr), .val (.int tt), .val (.double fa), .second, .val (.int a1), .val (.int i1), .val (.double w1), .second, .val (.int a2), .val (.int i2), .val (.double w2), .second, .val (.int in0), .val (.int in1), .val (.int in2), .val (.ref b9), .val (.ref b19), .val (.ref b33), .val (.ref b46), .val (.ref b62), .val (.ref b81), .val (.ref b111), .val (.ref b2_118), .val (.ref b30_118), .val (.int SF.1), .val (.int lz0), .val (.int lz1), .val (.int lz2), .val (.int lz3), .val (.int (((tz0 + tz1) + tz2) + tz3))] [])) _
    refine XS.iload X198.here hx rfl (hb hby at_483) rfl ?_
    refine XS.iload X198.here hx rfl (hb hby at_485) rfl ?_
    refine XS.icmpYes X198.here hx rfl (pc0 := 487) (pc' := 492) rfl (hb hby at_487) rfl (teq hc487).1 (by decide) (by decide) ?_
    refine XS.aload X198.here hx rfl (hb hby at_492) rfl rfl ?_
    refine XS.iload X198.here hx rfl (hb hby at_494) rfl ?_
    refine XS.iconst X198.here hx rfl (hb hby at_496) ?_
    show Steps p.tables e below (T198.setTop (mkF m 497 #[.val (.int p0), .val (.int p1), .val (.int p2), .val (.int p3), .val (.int p4), .val (.int r0), .val (.int r1), .val (.int r2), .val (.double u0), .second, .val (.double u1), .second, .val (.double u2), .second, .val (.int fr), .val (.int tt), .val (.double fa), .second, .val (.int a1), .val (.int i1), .val (.double w1), .second, .val (.int a2), .val (.int i2), .val (.double w2), .second, .val (.int in0), .val (.int in1), .val (.int in2), .val (.ref b9), .val (.ref b19), .val (.ref b33), .val (.ref b46), .val (.ref b62), .val (.ref b81), .val (.ref b111), .val (.ref b2_118), .val (.ref b30_118), .val (.int SF.1), .val (.int lz0), .val (.int lz1), .val (.int lz2), .val (.int lz3), .val (.int (((tz0 + tz1) + tz2) + tz3))] [(.int (0 : Int32)), (.int SF.1), (.ref b30_118)])) _
    refine st203 _ ?_
    show Steps p.tables e below (T203.setTop (mkF m 500 #[.val (.int p0), .val (.int p1), .val (.int p2), .val (.int p3), .val (.int p4), .val (.int r0), .val (.int r1), .val (.int r2), .val (.double u0), .second, .val (.double u1), .second, .val (.double u2), .second, .val (.int fr), .val (.int tt), .val (.double fa), .second, .val (.int a1), .val (.int i1), .val (.double w1), .second, .val (.int a2), .val (.int i2), .val (.double w2), .second, .val (.int in0), .val (.int in1), .val (.int in2), .val (.ref b9), .val (.ref b19), .val (.ref b33), .val (.ref b46), .val (.ref b62), .val (.ref b81), .val (.ref b111), .val (.ref b2_118), .val (.ref b30_118), .val (.int SF.1), .val (.int lz0), .val (.int lz1), .val (.int lz2), .val (.int lz3), .val (.int (((tz0 + tz1) + tz2) + tz3))] [(.int pz0)])) _
    refine XS.iload X203.here hx rfl (hb hby at_500) rfl ?_
    refine XS.icmpNo X203.here hx rfl (hb hby at_502) rfl (teq hc502).2 ?_
    refine XS.aload X203.here hx rfl (hb hby at_505) rfl rfl ?_
    refine XS.iload X203.here hx rfl (hb hby at_507) rfl ?_
    refine XS.iconst X203.here hx rfl (hb hby at_509) ?_
    show Steps p.tables e below (T203.setTop (mkF m 510 #[.val (.int p0), .val (.int p1), .val (.int p2), .val (.int p3), .val (.int p4), .val (.int r0), .val (.int r1), .val (.int r2), .val (.double u0), .second, .val (.double u1), .second, .val (.double u2), .second, .val (.int fr), .val (.int tt), .val (.double fa), .second, .val (.int a1), .val (.int i1), .val (.double w1), .second, .val (.int a2), .val (.int i2), .val (.double w2), .second, .val (.int in0), .val (.int in1), .val (.int in2), .val (.ref b9), .val (.ref b19), .val (.ref b33), .val (.ref b46), .val (.ref b62), .val (.ref b81), .val (.ref b111), .val (.ref b2_118), .val (.ref b30_118), .val (.int SF.1), .val (.int lz0), .val (.int lz1), .val (.int lz2), .val (.int lz3), .val (.int (((tz0 + tz1) + tz2) + tz3))] [(.int (1 : Int32)), (.int SF.1), (.ref b30_118)])) _
    refine st204 _ ?_
    show Steps p.tables e below (T204.setTop (mkF m 513 #[.val (.int p0), .val (.int p1), .val (.int p2), .val (.int p3), .val (.int p4), .val (.int r0), .val (.int r1), .val (.int r2), .val (.double u0), .second, .val (.double u1), .second, .val (.double u2), .second, .val (.int fr), .val (.int tt), .val (.double fa), .second, .val (.int a1), .val (.int i1), .val (.double w1), .second, .val (.int a2), .val (.int i2), .val (.double w2), .second, .val (.int in0), .val (.int in1), .val (.int in2), .val (.ref b9), .val (.ref b19), .val (.ref b33), .val (.ref b46), .val (.ref b62), .val (.ref b81), .val (.ref b111), .val (.ref b2_118), .val (.ref b30_118), .val (.int SF.1), .val (.int lz0), .val (.int lz1), .val (.int lz2), .val (.int lz3), .val (.int (((tz0 + tz1) + tz2) + tz3))] [(.int pz1)])) _
    refine XS.iload X204.here hx rfl (hb hby at_513) rfl ?_
    refine XS.icmpNo X204.here hx rfl (hb hby at_515) rfl (teq hc515).2 ?_
    refine XS.aload X204.here hx rfl (hb hby at_518) rfl rfl ?_
    refine XS.iload X204.here hx rfl (hb hby at_520) rfl ?_
    refine XS.iconst X204.here hx rfl (hb hby at_522) ?_
    show Steps p.tables e below (T204.setTop (mkF m 523 #[.val (.int p0), .val (.int p1), .val (.int p2), .val (.int p3), .val (.int p4), .val (.int r0), .val (.int r1), .val (.int r2), .val (.double u0), .second, .val (.double u1), .second, .val (.double u2), .second, .val (.int fr), .val (.int tt), .val (.double fa), .second, .val (.int a1), .val (.int i1), .val (.double w1), .second, .val (.int a2), .val (.int i2), .val (.double w2), .second, .val (.int in0), .val (.int in1), .val (.int in2), .val (.ref b9), .val (.ref b19), .val (.ref b33), .val (.ref b46), .val (.ref b62), .val (.ref b81), .val (.ref b111), .val (.ref b2_118), .val (.ref b30_118), .val (.int SF.1), .val (.int lz0), .val (.int lz1), .val (.int lz2), .val (.int lz3), .val (.int (((tz0 + tz1) + tz2) + tz3))] [(.int (2 : Int32)), (.int SF.1), (.ref b30_118)])) _
    refine st205 _ ?_
    show Steps p.tables e below (T205.setTop (mkF m 526 #[.val (.int p0), .val (.int p1), .val (.int p2), .val (.int p3), .val (.int p4), .val (.int r0), .val (.int r1), .val (.int r2), .val (.double u0), .second, .val (.double u1), .second, .val (.double u2), .second, .val (.int fr), .val (.int tt), .val (.double fa), .second, .val (.int a1), .val (.int i1), .val (.double w1), .second, .val (.int a2), .val (.int i2), .val (.double w2), .second, .val (.int in0), .val (.int in1), .val (.int in2), .val (.ref b9), .val (.ref b19), .val (.ref b33), .val (.ref b46), .val (.ref b62), .val (.ref b81), .val (.ref b111), .val (.ref b2_118), .val (.ref b30_118), .val (.int SF.1), .val (.int lz0), .val (.int lz1), .val (.int lz2), .val (.int lz3), .val (.int (((tz0 + tz1) + tz2) + tz3))] [(.int pz2)])) _
    refine XS.iload X205.here hx rfl (hb hby at_526) rfl ?_
    refine XS.icmpNo X205.here hx rfl (hb hby at_528) rfl (teq hc528).2 ?_
    refine XS.aload X205.here hx rfl (hb hby at_531) rfl rfl ?_
    refine XS.iload X205.here hx rfl (hb hby at_533) rfl ?_
    refine XS.iconst X205.here hx rfl (hb hby at_535) ?_
    show Steps p.tables e below (T205.setTop (mkF m 536 #[.val (.int p0), .val (.int p1), .val (.int p2), .val (.int p3), .val (.int p4), .val (.int r0), .val (.int r1), .val (.int r2), .val (.double u0), .second, .val (.double u1), .second, .val (.double u2), .second, .val (.int fr), .val (.int tt), .val (.double fa), .second, .val (.int a1), .val (.int i1), .val (.double w1), .second, .val (.int a2), .val (.int i2), .val (.double w2), .second, .val (.int in0), .val (.int in1), .val (.int in2), .val (.ref b9), .val (.ref b19), .val (.ref b33), .val (.ref b46), .val (.ref b62), .val (.ref b81), .val (.ref b111), .val (.ref b2_118), .val (.ref b30_118), .val (.int SF.1), .val (.int lz0), .val (.int lz1), .val (.int lz2), .val (.int lz3), .val (.int (((tz0 + tz1) + tz2) + tz3))] [(.int (3 : Int32)), (.int SF.1), (.ref b30_118)])) _
    refine st206 _ ?_
    show Steps p.tables e below (T206.setTop (mkF m 539 #[.val (.int p0), .val (.int p1), .val (.int p2), .val (.int p3), .val (.int p4), .val (.int r0), .val (.int r1), .val (.int r2), .val (.double u0), .second, .val (.double u1), .second, .val (.double u2), .second, .val (.int fr), .val (.int tt), .val (.double fa), .second, .val (.int a1), .val (.int i1), .val (.double w1), .second, .val (.int a2), .val (.int i2), .val (.double w2), .second, .val (.int in0), .val (.int in1), .val (.int in2), .val (.ref b9), .val (.ref b19), .val (.ref b33), .val (.ref b46), .val (.ref b62), .val (.ref b81), .val (.ref b111), .val (.ref b2_118), .val (.ref b30_118), .val (.int SF.1), .val (.int lz0), .val (.int lz1), .val (.int lz2), .val (.int lz3), .val (.int (((tz0 + tz1) + tz2) + tz3))] [(.int pz3)])) _
    refine XS.iload X206.here hx rfl (hb hby at_539) rfl ?_
    refine XS.icmpYes X206.here hx rfl (pc0 := 541) (pc' := 546) rfl (hb hby at_541) rfl (teq hc541).1 (by decide) (by decide) ?_
    refine XS.aload X206.here hx rfl (hb hby at_546) rfl rfl ?_
    refine XS.iconst X206.here hx rfl (hb hby at_548) ?_
    refine X206.daload hx (j := (0 : Int32)) (v := (.double xr0)) (by rw [e206]; exact Arq207.1) (State.isArrayOf_alike hZ.alike Arq207.2.1) Arq207.2.2 (inb_of Sq207 ⟨by decide, by decide⟩) (Has.at Hq207 (inb_of Sq207 ⟨by decide, by decide⟩) rfl) (g := (mkF m 549 #[.val (.int p0), .val (.int p1), .val (.int p2), .val (.int p3), .val (.int p4), .val (.int r0), .val (.int r1), .val (.int r2), .val (.double u0), .second, .val (.double u1), .second, .val (.double u2), .second, .val (.int fr), .val (.int tt), .val (.double fa), .second, .val (.int a1), .val (.int i1), .val (.double w1), .second, .val (.int a2), .val (.int i2), .val (.double w2), .second, .val (.int in0), .val (.int in1), .val (.int in2), .val (.ref b9), .val (.ref b19), .val (.ref b33), .val (.ref b46), .val (.ref b62), .val (.ref b81), .val (.ref b111), .val (.ref b2_118), .val (.ref b30_118), .val (.int SF.1), .val (.int lz0), .val (.int lz1), .val (.int lz2), .val (.int lz3), .val (.int (((tz0 + tz1) + tz2) + tz3))] [(.int (0 : Int32)), (.ref b2_118)])) rfl rfl (hb hby at_549) _ ?_
    show Steps p.tables e below (T206.setTop (mkF m 550 #[.val (.int p0), .val (.int p1), .val (.int p2), .val (.int p3), .val (.int p4), .val (.int r0), .val (.int r1), .val (.int r2), .val (.double u0), .second, .val (.double u1), .second, .val (.double u2), .second, .val (.int fr), .val (.int tt), .val (.double fa), .second, .val (.int a1), .val (.int i1), .val (.double w1), .second, .val (.int a2), .val (.int i2), .val (.double w2), .second, .val (.int in0), .val (.int in1), .val (.int in2), .val (.ref b9), .val (.ref b19), .val (.ref b33), .val (.ref b46), .val (.ref b62), .val (.ref b81), .val (.ref b111), .val (.ref b2_118), .val (.ref b30_118), .val (.int SF.1), .val (.int lz0), .val (.int lz1), .val (.int lz2), .val (.int lz3), .val (.int (((tz0 + tz1) + tz2) + tz3))] [(.double xr0)])) _
    refine XS.iconst X206.here hx rfl (hb hby at_550) ?_
    refine XS.aload X206.here hx rfl (hb hby at_551) rfl rfl ?_
    refine XS.aload X206.here hx rfl (hb hby at_553) rfl rfl ?_
    refine XS.aload X206.here hx rfl (hb hby at_555) rfl rfl ?_
    refine XS.aload X206.here hx rfl (hb hby at_557) rfl rfl ?_
    refine XS.aload X206.here hx rfl (hb hby at_559) rfl rfl ?_
    show Steps p.tables e below (T206.setTop (mkF m 561 #[.val (.int p0), .val (.int p1), .val (.int p2), .val (.int p3), .val (.int p4), .val (.int r0), .val (.int r1), .val (.int r2), .val (.double u0), .second, .val (.double u1), .second, .val (.double u2), .second, .val (.int fr), .val (.int tt), .val (.double fa), .second, .val (.int a1), .val (.int i1), .val (.double w1), .second, .val (.int a2), .val (.int i2), .val (.double w2), .second, .val (.int in0), .val (.int in1), .val (.int in2), .val (.ref b9), .val (.ref b19), .val (.ref b33), .val (.ref b46), .val (.ref b62), .val (.ref b81), .val (.ref b111), .val (.ref b2_118), .val (.ref b30_118), .val (.int SF.1), .val (.int lz0), .val (.int lz1), .val (.int lz2), .val (.int lz3), .val (.int (((tz0 + tz1) + tz2) + tz3))] [(.ref b9), (.ref b81), (.ref b62), (.ref b46), (.ref b33), (.int (0 : Int32)), (.double xr0)])) _
    refine XS.aload X206.here hx rfl (hb hby at_561) rfl rfl ?_
    refine XS.dload X206.here hx rfl (hb hby at_563) rfl ?_
    refine st208 _ ?_
    show Steps p.tables e below (T208.setTop (mkF m 568 #[.val (.int p0), .val (.int p1), .val (.int p2), .val (.int p3), .val (.int p4), .val (.int r0), .val (.int r1), .val (.int r2), .val (.double u0), .second, .val (.double u1), .second, .val (.double u2), .second, .val (.int fr), .val (.int tt), .val (.double fa), .second, .val (.int a1), .val (.int i1), .val (.double w1), .second, .val (.int a2), .val (.int i2), .val (.double w2), .second, .val (.int in0), .val (.int in1), .val (.int in2), .val (.ref b9), .val (.ref b19), .val (.ref b33), .val (.ref b46), .val (.ref b62), .val (.ref b81), .val (.ref b111), .val (.ref b2_118), .val (.ref b30_118), .val (.int SF.1), .val (.int lz0), .val (.int lz1), .val (.int lz2), .val (.int lz3), .val (.int (((tz0 + tz1) + tz2) + tz3))] [(.double ev0), (.double xr0)])) _
    refine XS.dcmpS X208.here hx rfl (hb hby at_568) rfl (v := (0 : Int32)) hd568 ?_
    refine XS.ifNo X208.here hx rfl (hb hby at_569) rfl ((if0 _ _).trans (teq (by decide : (0 : Int32) = (0 : Int32))).2) ?_
    refine XS.aload X208.here hx rfl (hb hby at_572) rfl rfl ?_
    show Steps p.tables e below (T208.setTop (mkF m 574 #[.val (.int p0), .val (.int p1), .val (.int p2), .val (.int p3), .val (.int p4), .val (.int r0), .val (.int r1), .val (.int r2), .val (.double u0), .second, .val (.double u1), .second, .val (.double u2), .second, .val (.int fr), .val (.int tt), .val (.double fa), .second, .val (.int a1), .val (.int i1), .val (.double w1), .second, .val (.int a2), .val (.int i2), .val (.double w2), .second, .val (.int in0), .val (.int in1), .val (.int in2), .val (.ref b9), .val (.ref b19), .val (.ref b33), .val (.ref b46), .val (.ref b62), .val (.ref b81), .val (.ref b111), .val (.ref b2_118), .val (.ref b30_118), .val (.int SF.1), .val (.int lz0), .val (.int lz1), .val (.int lz2), .val (.int lz3), .val (.int (((tz0 + tz1) + tz2) + tz3))] [(.ref b2_118)])) _
    refine XS.iconst X208.here hx rfl (hb hby at_574) ?_
    refine X208.daload hx (j := (1 : Int32)) (v := (.double xr1)) (by rw [e208]; exact Arq209.1) (State.isArrayOf_alike hZ.alike Arq209.2.1) Arq209.2.2 (inb_of Sq209 ⟨by decide, by decide⟩) (Has.at Hq209 (inb_of Sq209 ⟨by decide, by decide⟩) rfl) (g := (mkF m 575 #[.val (.int p0), .val (.int p1), .val (.int p2), .val (.int p3), .val (.int p4), .val (.int r0), .val (.int r1), .val (.int r2), .val (.double u0), .second, .val (.double u1), .second, .val (.double u2), .second, .val (.int fr), .val (.int tt), .val (.double fa), .second, .val (.int a1), .val (.int i1), .val (.double w1), .second, .val (.int a2), .val (.int i2), .val (.double w2), .second, .val (.int in0), .val (.int in1), .val (.int in2), .val (.ref b9), .val (.ref b19), .val (.ref b33), .val (.ref b46), .val (.ref b62), .val (.ref b81), .val (.ref b111), .val (.ref b2_118), .val (.ref b30_118), .val (.int SF.1), .val (.int lz0), .val (.int lz1), .val (.int lz2), .val (.int lz3), .val (.int (((tz0 + tz1) + tz2) + tz3))] [(.int (1 : Int32)), (.ref b2_118)])) rfl rfl (hb hby at_575) _ ?_
    show Steps p.tables e below (T208.setTop (mkF m 576 #[.val (.int p0), .val (.int p1), .val (.int p2), .val (.int p3), .val (.int p4), .val (.int r0), .val (.int r1), .val (.int r2), .val (.double u0), .second, .val (.double u1), .second, .val (.double u2), .second, .val (.int fr), .val (.int tt), .val (.double fa), .second, .val (.int a1), .val (.int i1), .val (.double w1), .second, .val (.int a2), .val (.int i2), .val (.double w2), .second, .val (.int in0), .val (.int in1), .val (.int in2), .val (.ref b9), .val (.ref b19), .val (.ref b33), .val (.ref b46), .val (.ref b62), .val (.ref b81), .val (.ref b111), .val (.ref b2_118), .val (.ref b30_118), .val (.int SF.1), .val (.int lz0), .val (.int lz1), .val (.int lz2), .val (.int lz3), .val (.int (((tz0 + tz1) + tz2) + tz3))] [(.double xr1)])) _
    refine XS.iconst X208.here hx rfl (hb hby at_576) ?_
    refine XS.aload X208.here hx rfl (hb hby at_577) rfl rfl ?_
    refine XS.aload X208.here hx rfl (hb hby at_579) rfl rfl ?_
    refine XS.aload X208.here hx rfl (hb hby at_581) rfl rfl ?_
    show Steps p.tables e below (T208.setTop (mkF m 583 #[.val (.int p0), .val (.int p1), .val (.int p2), .val (.int p3), .val (.int p4), .val (.int r0), .val (.int r1), .val (.int r2), .val (.double u0), .second, .val (.double u1), .second, .val (.double u2), .second, .val (.int fr), .val (.int tt), .val (.double fa), .second, .val (.int a1), .val (.int i1), .val (.double w1), .second, .val (.int a2), .val (.int i2), .val (.double w2), .second, .val (.int in0), .val (.int in1), .val (.int in2), .val (.ref b9), .val (.ref b19), .val (.ref b33), .val (.ref b46), .val (.ref b62), .val (.ref b81), .val (.ref b111), .val (.ref b2_118), .val (.ref b30_118), .val (.int SF.1), .val (.int lz0), .val (.int lz1), .val (.int lz2), .val (.int lz3), .val (.int (((tz0 + tz1) + tz2) + tz3))] [(.ref b62), (.ref b46), (.ref b33), (.int (1 : Int32)), (.double xr1)])) _
    refine XS.aload X208.here hx rfl (hb hby at_583) rfl rfl ?_
    refine XS.aload X208.here hx rfl (hb hby at_585) rfl rfl ?_
    refine XS.aload X208.here hx rfl (hb hby at_587) rfl rfl ?_
    refine XS.dload X208.here hx rfl (hb hby at_589) rfl ?_
    refine st210 _ ?_
    show Steps p.tables e below (T210.setTop (mkF m 594 #[.val (.int p0), .val (.int p1), .val (.int p2), .val (.int p3), .val (.int p4), .val (.int r0), .val (.int r1), .val (.int r2), .val (.double u0), .second, .val (.double u1), .second, .val (.double u2), .second, .val (.int fr), .val (.int tt), .val (.double fa), .second, .val (.int a1), .val (.int i1), .val (.double w1), .second, .val (.int a2), .val (.int i2), .val (.double w2), .second, .val (.int in0), .val (.int in1), .val (.int in2), .val (.ref b9), .val (.ref b19), .val (.ref b33), .val (.ref b46), .val (.ref b62), .val (.ref b81), .val (.ref b111), .val (.ref b2_118), .val (.ref b30_118), .val (.int SF.1), .val (.int lz0), .val (.int lz1), .val (.int lz2), .val (.int lz3), .val (.int (((tz0 + tz1) + tz2) + tz3))] [(.double ev1), (.double xr1)])) _
    refine XS.dcmpS X210.here hx rfl (hb hby at_594) rfl (v := (0 : Int32)) hd594 ?_
    show Steps p.tables e below (T210.setTop (mkF m 595 #[.val (.int p0), .val (.int p1), .val (.int p2), .val (.int p3), .val (.int p4), .val (.int r0), .val (.int r1), .val (.int r2), .val (.double u0), .second, .val (.double u1), .second, .val (.double u2), .second, .val (.int fr), .val (.int tt), .val (.double fa), .second, .val (.int a1), .val (.int i1), .val (.double w1), .second, .val (.int a2), .val (.int i2), .val (.double w2), .second, .val (.int in0), .val (.int in1), .val (.int in2), .val (.ref b9), .val (.ref b19), .val (.ref b33), .val (.ref b46), .val (.ref b62), .val (.ref b81), .val (.ref b111), .val (.ref b2_118), .val (.ref b30_118), .val (.int SF.1), .val (.int lz0), .val (.int lz1), .val (.int lz2), .val (.int lz3), .val (.int (((tz0 + tz1) + tz2) + tz3))] [(.int (0 : Int32))])) _
    refine XS.ifNo X210.here hx rfl (hb hby at_595) rfl ((if0 _ _).trans (teq (by decide : (0 : Int32) = (0 : Int32))).2) ?_
    refine XS.aload X210.here hx rfl (hb hby at_598) rfl rfl ?_
    refine XS.iconst X210.here hx rfl (hb hby at_600) ?_
    refine X210.daload hx (j := (2 : Int32)) (v := (.double xr2)) (by rw [e210]; exact Arq211.1) (State.isArrayOf_alike hZ.alike Arq211.2.1) Arq211.2.2 (inb_of Sq211 ⟨by decide, by decide⟩) (Has.at Hq211 (inb_of Sq211 ⟨by decide, by decide⟩) rfl) (g := (mkF m 601 #[.val (.int p0), .val (.int p1), .val (.int p2), .val (.int p3), .val (.int p4), .val (.int r0), .val (.int r1), .val (.int r2), .val (.double u0), .second, .val (.double u1), .second, .val (.double u2), .second, .val (.int fr), .val (.int tt), .val (.double fa), .second, .val (.int a1), .val (.int i1), .val (.double w1), .second, .val (.int a2), .val (.int i2), .val (.double w2), .second, .val (.int in0), .val (.int in1), .val (.int in2), .val (.ref b9), .val (.ref b19), .val (.ref b33), .val (.ref b46), .val (.ref b62), .val (.ref b81), .val (.ref b111), .val (.ref b2_118), .val (.ref b30_118), .val (.int SF.1), .val (.int lz0), .val (.int lz1), .val (.int lz2), .val (.int lz3), .val (.int (((tz0 + tz1) + tz2) + tz3))] [(.int (2 : Int32)), (.ref b2_118)])) rfl rfl (hb hby at_601) _ ?_
    show Steps p.tables e below (T210.setTop (mkF m 602 #[.val (.int p0), .val (.int p1), .val (.int p2), .val (.int p3), .val (.int p4), .val (.int r0), .val (.int r1), .val (.int r2), .val (.double u0), .second, .val (.double u1), .second, .val (.double u2), .second, .val (.int fr), .val (.int tt), .val (.double fa), .second, .val (.int a1), .val (.int i1), .val (.double w1), .second, .val (.int a2), .val (.int i2), .val (.double w2), .second, .val (.int in0), .val (.int in1), .val (.int in2), .val (.ref b9), .val (.ref b19), .val (.ref b33), .val (.ref b46), .val (.ref b62), .val (.ref b81), .val (.ref b111), .val (.ref b2_118), .val (.ref b30_118), .val (.int SF.1), .val (.int lz0), .val (.int lz1), .val (.int lz2), .val (.int lz3), .val (.int (((tz0 + tz1) + tz2) + tz3))] [(.double xr2)])) _
    refine XS.iconst X210.here hx rfl (hb hby at_602) ?_
    refine XS.aload X210.here hx rfl (hb hby at_603) rfl rfl ?_
    show Steps p.tables e below (T210.setTop (mkF m 605 #[.val (.int p0), .val (.int p1), .val (.int p2), .val (.int p3), .val (.int p4), .val (.int r0), .val (.int r1), .val (.int r2), .val (.double u0), .second, .val (.double u1), .second, .val (.double u2), .second, .val (.int fr), .val (.int tt), .val (.double fa), .second, .val (.int a1), .val (.int i1), .val (.double w1), .second, .val (.int a2), .val (.int i2), .val (.double w2), .second, .val (.int in0), .val (.int in1), .val (.int in2), .val (.ref b9), .val (.ref b19), .val (.ref b33), .val (.ref b46), .val (.ref b62), .val (.ref b81), .val (.ref b111), .val (.ref b2_118), .val (.ref b30_118), .val (.int SF.1), .val (.int lz0), .val (.int lz1), .val (.int lz2), .val (.int lz3), .val (.int (((tz0 + tz1) + tz2) + tz3))] [(.ref b33), (.int (2 : Int32)), (.double xr2)])) _
    refine XS.aload X210.here hx rfl (hb hby at_605) rfl rfl ?_
    refine XS.aload X210.here hx rfl (hb hby at_607) rfl rfl ?_
    refine XS.aload X210.here hx rfl (hb hby at_609) rfl rfl ?_
    refine XS.aload X210.here hx rfl (hb hby at_611) rfl rfl ?_
    refine XS.aload X210.here hx rfl (hb hby at_613) rfl rfl ?_
    refine XS.dload X210.here hx rfl (hb hby at_615) rfl ?_
    show Steps p.tables e below (T210.setTop (mkF m 617 #[.val (.int p0), .val (.int p1), .val (.int p2), .val (.int p3), .val (.int p4), .val (.int r0), .val (.int r1), .val (.int r2), .val (.double u0), .second, .val (.double u1), .second, .val (.double u2), .second, .val (.int fr), .val (.int tt), .val (.double fa), .second, .val (.int a1), .val (.int i1), .val (.double w1), .second, .val (.int a2), .val (.int i2), .val (.double w2), .second, .val (.int in0), .val (.int in1), .val (.int in2), .val (.ref b9), .val (.ref b19), .val (.ref b33), .val (.ref b46), .val (.ref b62), .val (.ref b81), .val (.ref b111), .val (.ref b2_118), .val (.ref b30_118), .val (.int SF.1), .val (.int lz0), .val (.int lz1), .val (.int lz2), .val (.int lz3), .val (.int (((tz0 + tz1) + tz2) + tz3))] [(.double fa), (.ref b19), (.ref b9), (.ref b81), (.ref b62), (.ref b46), (.ref b33), (.int (2 : Int32)), (.double xr2)])) _
    refine st212 _ ?_
    show Steps p.tables e below (T212.setTop (mkF m 620 #[.val (.int p0), .val (.int p1), .val (.int p2), .val (.int p3), .val (.int p4), .val (.int r0), .val (.int r1), .val (.int r2), .val (.double u0), .second, .val (.double u1), .second, .val (.double u2), .second, .val (.int fr), .val (.int tt), .val (.double fa), .second, .val (.int a1), .val (.int i1), .val (.double w1), .second, .val (.int a2), .val (.int i2), .val (.double w2), .second, .val (.int in0), .val (.int in1), .val (.int in2), .val (.ref b9), .val (.ref b19), .val (.ref b33), .val (.ref b46), .val (.ref b62), .val (.ref b81), .val (.ref b111), .val (.ref b2_118), .val (.ref b30_118), .val (.int SF.1), .val (.int lz0), .val (.int lz1), .val (.int lz2), .val (.int lz3), .val (.int (((tz0 + tz1) + tz2) + tz3))] [(.double ev2), (.double xr2)])) _
    refine XS.dcmpS X212.here hx rfl (hb hby at_620) rfl (v := (0 : Int32)) hd620 ?_
    refine XS.ifNo X212.here hx rfl (hb hby at_621) rfl ((if0 _ _).trans (teq (by decide : (0 : Int32) = (0 : Int32))).2) ?_
    refine XS.aload X212.here hx rfl (hb hby at_624) rfl rfl ?_
    refine XS.iconst X212.here hx rfl (hb hby at_626) ?_
    refine X212.daload hx (j := (3 : Int32)) (v := (.double xr3)) (by rw [e212]; exact Arq213.1) (State.isArrayOf_alike hZ.alike Arq213.2.1) Arq213.2.2 (inb_of Sq213 ⟨by decide, by decide⟩) (Has.at Hq213 (inb_of Sq213 ⟨by decide, by decide⟩) rfl) (g := (mkF m 627 #[.val (.int p0), .val (.int p1), .val (.int p2), .val (.int p3), .val (.int p4), .val (.int r0), .val (.int r1), .val (.int r2), .val (.double u0), .second, .val (.double u1), .second, .val (.double u2), .second, .val (.int fr), .val (.int tt), .val (.double fa), .second, .val (.int a1), .val (.int i1), .val (.double w1), .second, .val (.int a2), .val (.int i2), .val (.double w2), .second, .val (.int in0), .val (.int in1), .val (.int in2), .val (.ref b9), .val (.ref b19), .val (.ref b33), .val (.ref b46), .val (.ref b62), .val (.ref b81), .val (.ref b111), .val (.ref b2_118), .val (.ref b30_118), .val (.int SF.1), .val (.int lz0), .val (.int lz1), .val (.int lz2), .val (.int lz3), .val (.int (((tz0 + tz1) + tz2) + tz3))] [(.int (3 : Int32)), (.ref b2_118)])) rfl rfl (hb hby at_627) _ ?_
    show Steps p.tables e below (T212.setTop (mkF m 628 #[.val (.int p0), .val (.int p1), .val (.int p2), .val (.int p3), .val (.int p4), .val (.int r0), .val (.int r1), .val (.int r2), .val (.double u0), .second, .val (.double u1), .second, .val (.double u2), .second, .val (.int fr), .val (.int tt), .val (.double fa), .second, .val (.int a1), .val (.int i1), .val (.double w1), .second, .val (.int a2), .val (.int i2), .val (.double w2), .second, .val (.int in0), .val (.int in1), .val (.int in2), .val (.ref b9), .val (.ref b19), .val (.ref b33), .val (.ref b46), .val (.ref b62), .val (.ref b81), .val (.ref b111), .val (.ref b2_118), .val (.ref b30_118), .val (.int SF.1), .val (.int lz0), .val (.int lz1), .val (.int lz2), .val (.int lz3), .val (.int (((tz0 + tz1) + tz2) + tz3))] [(.double xr3)])) _
    refine XS.iconst X212.here hx rfl (hb hby at_628) ?_
    refine XS.aload X212.here hx rfl (hb hby at_629) rfl rfl ?_
    refine XS.aload X212.here hx rfl (hb hby at_631) rfl rfl ?_
    refine XS.aload X212.here hx rfl (hb hby at_633) rfl rfl ?_
    refine XS.aload X212.here hx rfl (hb hby at_635) rfl rfl ?_
    refine XS.aload X212.here hx rfl (hb hby at_637) rfl rfl ?_
    show Steps p.tables e below (T212.setTop (mkF m 639 #[.val (.int p0), .val (.int p1), .val (.int p2), .val (.int p3), .val (.int p4), .val (.int r0), .val (.int r1), .val (.int r2), .val (.double u0), .second, .val (.double u1), .second, .val (.double u2), .second, .val (.int fr), .val (.int tt), .val (.double fa), .second, .val (.int a1), .val (.int i1), .val (.double w1), .second, .val (.int a2), .val (.int i2), .val (.double w2), .second, .val (.int in0), .val (.int in1), .val (.int in2), .val (.ref b9), .val (.ref b19), .val (.ref b33), .val (.ref b46), .val (.ref b62), .val (.ref b81), .val (.ref b111), .val (.ref b2_118), .val (.ref b30_118), .val (.int SF.1), .val (.int lz0), .val (.int lz1), .val (.int lz2), .val (.int lz3), .val (.int (((tz0 + tz1) + tz2) + tz3))] [(.ref b9), (.ref b81), (.ref b62), (.ref b46), (.ref b33), (.int (3 : Int32)), (.double xr3)])) _
    refine XS.aload X212.here hx rfl (hb hby at_639) rfl rfl ?_
    refine XS.dload X212.here hx rfl (hb hby at_641) rfl ?_
    refine st214 _ ?_
    show Steps p.tables e below (T214.setTop (mkF m 646 #[.val (.int p0), .val (.int p1), .val (.int p2), .val (.int p3), .val (.int p4), .val (.int r0), .val (.int r1), .val (.int r2), .val (.double u0), .second, .val (.double u1), .second, .val (.double u2), .second, .val (.int fr), .val (.int tt), .val (.double fa), .second, .val (.int a1), .val (.int i1), .val (.double w1), .second, .val (.int a2), .val (.int i2), .val (.double w2), .second, .val (.int in0), .val (.int in1), .val (.int in2), .val (.ref b9), .val (.ref b19), .val (.ref b33), .val (.ref b46), .val (.ref b62), .val (.ref b81), .val (.ref b111), .val (.ref b2_118), .val (.ref b30_118), .val (.int SF.1), .val (.int lz0), .val (.int lz1), .val (.int lz2), .val (.int lz3), .val (.int (((tz0 + tz1) + tz2) + tz3))] [(.double ev3), (.double xr3)])) _
    refine XS.dcmpS X214.here hx rfl (hb hby at_646) rfl (v := (0 : Int32)) hd646 ?_
    refine XS.ifNo X214.here hx rfl (hb hby at_647) rfl ((if0 _ _).trans (teq (by decide : (0 : Int32) = (0 : Int32))).2) ?_
    refine XS.iconst X214.here hx rfl (hb hby at_650) ?_
    show Steps p.tables e below (T214.setTop (mkF m 651 #[.val (.int p0), .val (.int p1), .val (.int p2), .val (.int p3), .val (.int p4), .val (.int r0), .val (.int r1), .val (.int r2), .val (.double u0), .second, .val (.double u1), .second, .val (.double u2), .second, .val (.int fr), .val (.int tt), .val (.double fa), .second, .val (.int a1), .val (.int i1), .val (.double w1), .second, .val (.int a2), .val (.int i2), .val (.double w2), .second, .val (.int in0), .val (.int in1), .val (.int in2), .val (.ref b9), .val (.ref b19), .val (.ref b33), .val (.ref b46), .val (.ref b62), .val (.ref b81), .val (.ref b111), .val (.ref b2_118), .val (.ref b30_118), .val (.int SF.1), .val (.int lz0), .val (.int lz1), .val (.int lz2), .val (.int lz3), .val (.int (((tz0 + tz1) + tz2) + tz3))] [(.int (1 : Int32))])) _
    refine XS.goto X214.here hx rfl (pc0 := 651) (pc' := 655) rfl (hb hby at_651) (by decide) (by decide) ?_
    exact retN X214 hx (t := .boolean) Bd.returns (by simp) (hb hby at_655) hr
  · show Q0 n0 _ T214.heap _
    rw [e214]
    exact ⟨rfl, N214⟩
theorem own_four (p : Int32) : (p &&& (3 : Int32)) = (0 : Int32) ∨ (p &&& (3 : Int32)) = (1 : Int32) ∨ (p &&& (3 : Int32)) = (2 : Int32) ∨ (p &&& (3 : Int32)) = (3 : Int32) := by
  have a := c_and p (3 : Int32) (by decide)
  rw [show (3 : Int32).toInt = 3 by decide] at a
  have : (p &&& (3 : Int32)).toInt = 0 ∨ (p &&& (3 : Int32)).toInt = 1 ∨ (p &&& (3 : Int32)).toInt = 2 ∨ (p &&& (3 : Int32)).toInt = 3 := by omega
  rcases this with h | h | h | h
  · exact Or.inl (Int32.toInt_inj.mp (by rw [h]; decide))
  · exact Or.inr (Or.inl (Int32.toInt_inj.mp (by rw [h]; decide)))
  · exact Or.inr (Or.inr (Or.inl (Int32.toInt_inj.mp (by rw [h]; decide))))
  · exact Or.inr (Or.inr (Or.inr (Int32.toInt_inj.mp (by rw [h]; decide))))
theorem own_byte (w : Int32) : (w.toInt8.toInt32).toInt.natAbs ≤ 128 := by have := c_i2b w; omega
theorem own_short (w : Int32) : (w.toInt16.toInt32).toInt.natAbs ≤ 32768 := by have := c_i2s w; omega
theorem own_if01 {c : Prop} [Decidable c] : (if c then (0 : Int32) else (1 : Int32)) = (0 : Int32) ∨ (if c then (0 : Int32) else (1 : Int32)) = (1 : Int32) := by
  by_cases h : c
  · rw [if_pos h]; exact Or.inl rfl
  · rw [if_neg h]; exact Or.inr rfl
theorem own_law (l : Launch) (Z : State) (a0 : Array Value) (hw : ∀ d ∈ tables_1, d.before a0 Z = true) (ws : List Jvm.Cond) (p0 : Int32) (p1 : Int32) (p2 : Int32) (p3 : Int32) (p4 : Int32) (h0 : Heap) (n0 : Nat) (Z0 : n0 ≤ h0.size) :
    MetFree l x (head1 (Jvm.Cond.code x code maxLocals ret :: ws) room_1) (fun a U => a = #[(.int p0), (.int p1), (.int p2), (.int p3), (.int p4)] ∧ Z.Warmed39 U.vm ∧ U.heap = h0) (fun _ _ _ _ _ => True) (fun _ U o U' => ∃ v L, o = .returned v ∧ Q0 n0 v U'.heap L ∧ FrameEnd U o U' L room_1.cells room_1.slots) := by
  obtain ⟨r0, e_r0⟩ : ∃ z, (p0 &&& (3 : Int32)) = z := ⟨_, rfl⟩
  obtain ⟨r1, e_r1⟩ : ∃ z, (((p0.toUInt32 >>> ((2 : Int32) &&& 31).toUInt32).toInt32) &&& (3 : Int32)) = z := ⟨_, rfl⟩
  obtain ⟨r2, e_r2⟩ : ∃ z, (((p0.toUInt32 >>> ((4 : Int32) &&& 31).toUInt32).toInt32) &&& (3 : Int32)) = z := ⟨_, rfl⟩
  obtain ⟨u0, e_u0⟩ : ∃ z, (FP.i2d (p1.toInt8.toInt32)) = z := ⟨_, rfl⟩
  obtain ⟨u1, e_u1⟩ : ∃ z, (FP.i2d (((p1.toUInt32 >>> ((8 : Int32) &&& 31).toUInt32).toInt32).toInt8.toInt32)) = z := ⟨_, rfl⟩
  obtain ⟨u2, e_u2⟩ : ∃ z, (FP.i2d (((p1.toUInt32 >>> ((16 : Int32) &&& 31).toUInt32).toInt32).toInt8.toInt32)) = z := ⟨_, rfl⟩
  obtain ⟨fr, e_fr⟩ : ∃ z, (p2 &&& (3 : Int32)) = z := ⟨_, rfl⟩
  obtain ⟨tt, e_tt⟩ : ∃ z, (((p2.toUInt32 >>> ((2 : Int32) &&& 31).toUInt32).toInt32) &&& (3 : Int32)) = z := ⟨_, rfl⟩
  obtain ⟨fa, e_fa⟩ : ∃ z, (FP.i2d (p3.toInt16.toInt32)) = z := ⟨_, rfl⟩
  obtain ⟨a1, e_a1⟩ : ∃ z, (if (p4 &&& (1 : Int32)) = (0 : Int32) then (0 : Int32) else (1 : Int32)) = z := ⟨_, rfl⟩
  obtain ⟨i1, e_i1⟩ : ∃ z, (((p4.toUInt32 >>> ((1 : Int32) &&& 31).toUInt32).toInt32) &&& (3 : Int32)) = z := ⟨_, rfl⟩
  obtain ⟨w1, e_w1⟩ : ∃ z, (FP.i2d (((p4.toUInt32 >>> ((8 : Int32) &&& 31).toUInt32).toInt32).toInt8.toInt32)) = z := ⟨_, rfl⟩
  obtain ⟨a2, e_a2⟩ : ∃ z, (if (p4 &&& (8 : Int32)) = (0 : Int32) then (0 : Int32) else (1 : Int32)) = z := ⟨_, rfl⟩
  obtain ⟨i2, e_i2⟩ : ∃ z, (((p4.toUInt32 >>> ((4 : Int32) &&& 31).toUInt32).toInt32) &&& (3 : Int32)) = z := ⟨_, rfl⟩
  obtain ⟨w2, e_w2⟩ : ∃ z, (FP.i2d (((p4.toUInt32 >>> ((16 : Int32) &&& 31).toUInt32).toInt32).toInt8.toInt32)) = z := ⟨_, rfl⟩
  obtain ⟨jz0, e_jz0⟩ : ∃ z, (if (0 : Int32) < tt then (1 : Int32) else (0 : Int32)) = z := ⟨_, rfl⟩
  obtain ⟨in0, e_in0⟩ : ∃ z, (if (0 : Int32) < fr then (0 : Int32) else jz0) = z := ⟨_, rfl⟩
  obtain ⟨jz1, e_jz1⟩ : ∃ z, (if (1 : Int32) < tt then (1 : Int32) else (0 : Int32)) = z := ⟨_, rfl⟩
  obtain ⟨in1, e_in1⟩ : ∃ z, (if (1 : Int32) < fr then (0 : Int32) else jz1) = z := ⟨_, rfl⟩
  obtain ⟨jz2, e_jz2⟩ : ∃ z, (if (2 : Int32) < tt then (1 : Int32) else (0 : Int32)) = z := ⟨_, rfl⟩
  obtain ⟨in2, e_in2⟩ : ∃ z, (if (2 : Int32) < fr then (0 : Int32) else jz2) = z := ⟨_, rfl⟩
  have h_r0 : Jvm.OwnSC.R4 r0 := by rw [← e_r0]; exact own_four _
  have h_r1 : Jvm.OwnSC.R4 r1 := by rw [← e_r1]; exact own_four _
  have h_r2 : Jvm.OwnSC.R4 r2 := by rw [← e_r2]; exact own_four _
  have h_fr : Jvm.OwnSC.R4 fr := by rw [← e_fr]; exact own_four _
  have h_tt : Jvm.OwnSC.R4 tt := by rw [← e_tt]; exact own_four _
  have h_i1 : Jvm.OwnSC.R4 i1 := by rw [← e_i1]; exact own_four _
  have h_i2 : Jvm.OwnSC.R4 i2 := by rw [← e_i2]; exact own_four _
  obtain ⟨a_u0, r_u0, b_u0⟩ : ∃ a : Int, Jvm.OwnFP.Ra a 1 u0 ∧ a.natAbs ≤ 128 := by rw [← e_u0]; exact ⟨_, Jvm.OwnFP.Ra.i2d _, own_byte _⟩
  obtain ⟨a_u1, r_u1, b_u1⟩ : ∃ a : Int, Jvm.OwnFP.Ra a 1 u1 ∧ a.natAbs ≤ 128 := by rw [← e_u1]; exact ⟨_, Jvm.OwnFP.Ra.i2d _, own_byte _⟩
  obtain ⟨a_u2, r_u2, b_u2⟩ : ∃ a : Int, Jvm.OwnFP.Ra a 1 u2 ∧ a.natAbs ≤ 128 := by rw [← e_u2]; exact ⟨_, Jvm.OwnFP.Ra.i2d _, own_byte _⟩
  obtain ⟨a_w1, r_w1, b_w1⟩ : ∃ a : Int, Jvm.OwnFP.Ra a 1 w1 ∧ a.natAbs ≤ 128 := by rw [← e_w1]; exact ⟨_, Jvm.OwnFP.Ra.i2d _, own_byte _⟩
  obtain ⟨a_w2, r_w2, b_w2⟩ : ∃ a : Int, Jvm.OwnFP.Ra a 1 w2 ∧ a.natAbs ≤ 128 := by rw [← e_w2]; exact ⟨_, Jvm.OwnFP.Ra.i2d _, own_byte _⟩
  obtain ⟨a_fa, r_fa, b_fa⟩ : ∃ a : Int, Jvm.OwnFP.Ra a 1 fa ∧ a.natAbs ≤ 32768 := by rw [← e_fa]; exact ⟨_, Jvm.OwnFP.Ra.i2d _, own_short _⟩
  have g0 : Jvm.OwnSC.inn fr tt 0 = in0 := by unfold Jvm.OwnSC.inn; rw [e_jz0, e_in0]
  have g1 : Jvm.OwnSC.inn fr tt 1 = in1 := by unfold Jvm.OwnSC.inn; rw [e_jz1, e_in1]
  have g2 : Jvm.OwnSC.inn fr tt 2 = in2 := by unfold Jvm.OwnSC.inn; rw [e_jz2, e_in2]
  obtain ⟨SA, cA, IA, MA⟩ := Jvm.OwnSC.condStep Jvm.OwnSC.inv0 (M := 0) (fun z => ⟨0, Jvm.OwnFP.ra_zero, by decide⟩) (by decide) a1 h_i1 r_w1 b_w1
  obtain ⟨SB, cB, IB, MB⟩ := Jvm.OwnSC.condStep IA MA (by decide) a2 h_i2 r_w2 b_w2
  obtain ⟨SF, cS, IF⟩ := Jvm.OwnSC.subStep IB MB (by decide) h_fr h_tt h_r0 h_r1 h_r2 r_u0 r_u1 r_u2 r_fa b_u0 b_u1 b_u2 b_fa
  rw [g0, g1, g2] at IF
  obtain ⟨L, X, hL, hX, hv, hl, hc, qr0, qr1, qr2, qr3, hq, hp⟩ : ∃ L X, (∀ z, Jvm.OwnSC.le z a1 a2 i1 i2 in0 in1 in2 r0 r1 r2 = Jvm.OwnSC.bi (L z)) ∧ (∀ z, X z = Jvm.OwnSC.ve z a1 a2 i1 i2 in0 in1 in2 r0 r1 r2 w1 w2 u0 u1 u2 fa) ∧ Jvm.OwnSC.Inv SF L X := ⟨_, _, fun z => Jvm.OwnSC.le_of z a1 a2 i1 i2 in0 in1 in2 r0 r1 r2, fun z => rfl, IF⟩
  have vn := fun z => Jvm.OwnSC.vn_of z a1 a2 i1 i2 in0 in1 in2 r0 r1 r2 r_w1 r_w2 b_w1 b_w2 r_u0 r_u1 r_u2 r_fa b_u0 b_u1 b_u2 b_fa
  have nX : ∀ z, Jvm.Free.Fl.NoNaN64 (X z) := fun z => by rw [hX z]; exact (vn z).2
  exact rm0 l Z a0 hw ws p0 p1 p2 p3 p4 SA SB SF (Jvm.OwnSC.bi (L 0)) (Jvm.OwnSC.bi (L 0)) (X 0) qr0 (X 0) (Jvm.OwnSC.bi (L 1)) (Jvm.OwnSC.bi (L 1)) (X 1) qr1 (X 1) (Jvm.OwnSC.bi (L 2)) (Jvm.OwnSC.bi (L 2)) (X 2) qr2 (X 2) (Jvm.OwnSC.bi (L 3)) (Jvm.OwnSC.bi (L 3)) (X 3) qr3 (X 3) r0 r1 r2 u0 u1 u2 fr tt fa a1 i1 w1 a2 i2 w2 jz0 in0 jz1 in1 jz2 in2 (if Jvm.OwnSC.bi (L 0) = (0 : Int32) then (0 : Int32) else (1 : Int32)) (if Jvm.OwnSC.bi (L 1) = (0 : Int32) then (0 : Int32) else (1 : Int32)) (if Jvm.OwnSC.bi (L 2) = (0 : Int32) then (0 : Int32) else (1 : Int32)) (if Jvm.OwnSC.bi (L 3) = (0 : Int32) then (0 : Int32) else (1 : Int32)) h0 n0 Z0 (hqs := hq) (hxs := hv) (hv2 := e_r0) (hv9 := e_r1) (hv16 := e_r2) (hq21 := e_u0) (hq29 := e_u1) (hq37 := e_u2) (hv42 := e_fr) (hv49 := e_tt) (hq54 := e_fa) (hj_a1 := e_a1) (hv76 := e_i1) (hq85 := e_w1) (hj_a2 := e_a2) (hv108 := e_i2) (hq117 := e_w2) (hj_jz0 := e_jz0) (hj_in0 := e_in0) (hj_jz1 := e_jz1) (hj_in1 := e_in1) (hj_jz2 := e_jz2) (hj_in2 := e_in2) (hz223 := by rw [← e_a1]; exact own_if01) (hz228 := by rw [← e_a2]; exact own_if01) (hz268 := by rw [← g0]; exact Jvm.OwnSC.inn01 _ _ _) (hz273 := by rw [← g1]; exact Jvm.OwnSC.inn01 _ _ _) (hz278 := by rw [← g2]; exact Jvm.OwnSC.inn01 _ _ _) (hcnd_291 := cA) (hcnd_305 := cB) (hsub_331 := cS) (hc357 := by rw [hc]; exact (Jvm.OwnSC.cnt_of L).2.1) (hc363 := by rw [hc]; exact (Jvm.OwnSC.cnt_of L).2.2) (hlz_391 := (hL 0).symm) (hlz_405 := (hL 1).symm) (hlz_419 := (hL 2).symm) (hlz_433 := (hL 3).symm) (hj_tz0 := rfl) (hj_tz1 := rfl) (hj_tz2 := rfl) (hj_tz3 := rfl) (hc487 := hc.trans (Jvm.OwnSC.cnt_of L).1) (hpz_497 := by rw [hc]; exact (Jvm.OwnSC.pr_of (Or.inl rfl) hp).symm) (hc502 := rfl) (hpz_510 := by rw [hc]; exact (Jvm.OwnSC.pr_of (Or.inr (Or.inl rfl)) hp).symm) (hc515 := rfl) (hpz_523 := by rw [hc]; exact (Jvm.OwnSC.pr_of (Or.inr (Or.inr (Or.inl rfl))) hp).symm) (hc528 := rfl) (hpz_536 := by rw [hc]; exact (Jvm.OwnSC.pr_of (Or.inr (Or.inr (Or.inr rfl))) hp).symm) (hc541 := rfl) (hev_565 := hX 0) (hnn_565 := (vn 0).1) (hd568 := Jvm.RoadKit.dcmpV_self (nX 0) .l) (hev_591 := hX 1) (hnn_591 := (vn 1).1) (hd594 := Jvm.RoadKit.dcmpV_self (nX 1) .l) (hev_617 := hX 2) (hnn_617 := (vn 2).1) (hd620 := Jvm.RoadKit.dcmpV_self (nX 2) .l) (hev_643 := hX 3) (hnn_643 := (vn 3).1) (hd646 := Jvm.RoadKit.dcmpV_self (nX 3) .l)
set_option maxRecDepth 65536 in
set_option maxHeartbeats 40000000 in
theorem comes_1 {Post : Tables → Env → Array Value → State → Outcome → State → Prop} (hpost : ∀ tb e args s v u, (limb_1_1.after args s (.returned v) u = true ∧ limb_1_2.after args s (.returned v) u = true ∧ True) → FrameEnd s (.returned v) u (Jvm.fieldLocs frame_1_writes args s ++ Jvm.arrayLocs frame_1_arrays args s ++ Jvm.staticLocs frame_1_statics s) 32 128 → Post tb e args s (.returned v) u) :
    ArmFor flags0 classFile x code maxLocals ret World_1 tables_1 room_1 Calls_1 rest_1 Pre_1 Post := by
  intro l hfl _ _ p e ha hc hk s m args below hf hA hF happ hP
  obtain ⟨hcalls, hrest, hpre⟩ := hP
  obtain ⟨-, -, -, hnamed, -, -, -, hat⟩ := (Spec.applies_iff hf).mp happ
  obtain ⟨hg, hn⟩ := and_e (Cond.before_iff.mp (show (Jvm.Cond.and given_1 narrow_1).before args s = true from hpre))
  obtain ⟨g1, g2⟩ := and_e hg
  obtain ⟨g3, g4⟩ := and_e g2
  obtain ⟨g5, g6⟩ := and_e g4
  obtain ⟨g7, g8⟩ := and_e g6
  obtain ⟨g9, g10⟩ := and_e g8
  obtain ⟨w0, w1, w2, w3, w4, rfl⟩ : ∃ w0 w1 w2 w3 w4 : Value, args = #[w0, w1, w2, w3, w4] := by
    have hs : args.size = 5 := by simpa [Cond.value, given_1] using g1
    obtain ⟨L⟩ := args
    match L, hs with
    | [w0, w1, w2, w3, w4], _ => exact ⟨w0, w1, w2, w3, w4, rfl⟩
  have hw := fun d (hd : d ∈ tables_1) => atoms_spec (ws := Jvm.Cond.code x code maxLocals ret :: tables_1) hat d (List.mem_cons_of_mem _ hd)
  have hfit : Fit s := fun {y c} hc i hi => by
    obtain ⟨ha, rfl⟩ := Array.getElem?_eq_some_iff.mp hc
    have q := List.all_eq_true.mp ((Array.all_eq_true_iff_forall_mem.mp hF) _ (Array.getElem_mem ha)) i (List.mem_range.mpr hi)
    simpa [Array.getElem?_eq_getElem hi] using q
  obtain ⟨i0, ei0⟩ := is_v g3
  obtain rfl : w0 = (.int i0) := Option.some.inj ei0
  obtain ⟨i1, ei1⟩ := is_v g5
  obtain rfl : w1 = (.int i1) := Option.some.inj ei1
  obtain ⟨i2, ei2⟩ := is_v g7
  obtain rfl : w2 = (.int i2) := Option.some.inj ei2
  obtain ⟨i3, ei3⟩ := is_v g9
  obtain rfl : w3 = (.int i3) := Option.some.inj ei3
  obtain ⟨i4, ei4⟩ := is_v g10
  obtain rfl : w4 = (.int i4) := Option.some.inj ei4
  obtain ⟨n, o, h1, h2, h3, _, L, rfl, ⟨rfl, N⟩, hq⟩ := own_law l s _ hw tables_1 i0 i1 i2 i3 i4 s.heap s.heap.size (Nat.le_refl _)  p e ha hc hk s m _ below hf ((Spec.applies_iff_loose hf).mp happ).1 ⟨rfl, State.Warmed39.refl s, rfl⟩ trivial
  refine ⟨n, _, h1, h2, h3, hpost _ _ _ _ _ _ ⟨Cond.after_iff.mpr rfl, Cond.after_iff.mpr (eq_i res_at (Term.int_eval (1)) rfl), trivial⟩ ⟨hq.1, hq.2.1, (hq.2.2.sift fun y hy => Or.inr (N y hy)).mono (by decide) (by decide)⟩⟩
theorem main_1_1 : Claimed_1_1 := comes_1 fun _ _ _ _ _ _ h hF => ⟨h.1, hF⟩
theorem main_1_2 : Claimed_1_2 := comes_1 fun _ _ _ _ _ _ h hF => ⟨h.2.1, hF⟩
end Jvm.Pilot.@@N@@
namespace Jvm.Pilot.@@N@@
open Jvm Jvm.ClassFile Sem Op Lib Jvm.Free Jvm.Stand Jvm.Pilot.@@N@@.Jvm.D
/-! MADE BY PROGRAM (witnessworld.py) out of the Statement's table words and the real class files: 13 classes; the members and pool entries that the words name. The judged class is class 1, her method 1. -/
namespace start1
open Jvm.ClassFile
def u (s : String) : CpInfo := .utf8 (stringToUtf16 s)
/-- a pool by its gaps: so many unusable entries, then the entry; so many at the end -/
def gap : Nat → List CpInfo → List CpInfo
  | 0, r => r
  | n + 1, r => .unusable :: gap n r
def poolList (es : List (Nat × CpInfo)) (last : Nat) : List CpInfo := es.foldr (fun e r => gap e.1 (e.2 :: r)) (gap last [])
def pool (es : List (Nat × CpInfo)) (last : Nat) : Array CpInfo := ⟨poolList es last⟩
def fileOf (pool : Array CpInfo) (this : Nat) (attrs : Array Attribute := #[]) (ms : Array MethodInfo := #[]) (fl : Nat := 33) (sup : Nat := 0) (ifs : Array Nat := #[]) (fds : Array FieldInfo := #[]) : ClassFile where
  minorVersion := 0
  majorVersion := 65
  constantPool := pool
  accessFlags := fl
  thisClass := this
  superClass := sup
  interfaces := ifs
  fields := fds
  methods := ms
  attributes := attrs
def plain (name : String) (sup : Option ClassId) : Class where
  name := name
  kind := .ordinary
  loader := none
  accessFlags := 33
  super := sup
  interfaces := #[]
  cf := none
  fields := #[]
  methods := #[]
  instanceTypes := #[]
  staticTypes := #[]
  resolved := #[]
  callSites := []
  init := .initialized
  statics := none
  mirror := none

def pool0 : Array CpInfo := pool [(5, u "<init>"), (0, u "()V"), (1, .class_ 10), (1, u "java/lang/Object")] 113

def k0c0 : Code := { maxStack := 0, maxLocals := 1, code := object_method_1_code, exceptionTable := #[], attributes := #[] }
def k0m0 : Method := { name := "<init>", desc := "()V", sig := { parameters := [], returnType := none }, accessFlags := 1, code := some k0c0 }
/-- java/lang/Object -/
def k0 : Class := { plain "java/lang/Object" none with
  accessFlags := 33
  interfaces := #[]
  cf := some (fileOf pool0 8 #[] #[{ accessFlags := 1, nameIndex := 5, descriptorIndex := 6, attributes := #[] }] 33 0 #[] #[])
  fields := #[]
  methods := #[k0m0]
  instanceTypes := #[]
  staticTypes := #[]
  resolved := Array.replicate 124 none
  statics := none }

def pool1 : Array CpInfo := pool [(2, .class_ 4), (1, u "java/lang/Object"), (0, u "<init>"), (0, u "()V"), (0, .class_ 8), (0, u "com/example/leeway/leeway/lp/SparseColumn"), (0, .methodref 7 10), (0, .nameAndType 5 11), (0, u "(I)V"), (0, .methodref 7 13), (0, .nameAndType 14 15), (0, u "add"), (0, u "(ID)V"), (0, .methodref 7 17), (0, .nameAndType 18 19), (0, u "subtract"), (0, u "([I[DIID)V"), (0, .methodref 7 21), (0, .nameAndType 22 23), (0, u "values"), (0, u "()[D"), (0, .methodref 7 25), (0, .nameAndType 26 27), (0, u "rows"), (0, u "()[I"), (0, .methodref 7 29), (0, .nameAndType 30 31), (0, u "count"), (0, u "()I"), (0, .methodref 33 34), (0, .class_ 35), (0, .nameAndType 36 37), (0, u "com/example/leeway/leeway/lp/SparseColumnSubtractPinLaw"), (0, u "listedExpected"), (0, u "(I[Z[I[Z[I)Z"), (0, .methodref 33 39), (0, .nameAndType 40 41), (0, u "present"), (0, u "([III)Z"), (0, .methodref 33 43), (0, .nameAndType 44 45), (0, u "valueExpected"), (0, u "(I[Z[I[D[Z[I[DD)D"), (2, u "law"), (0, u "(IIIII)Z")] 9

def k1m0 : Method := { name := "<init>", desc := "()V", sig := { parameters := [], returnType := none }, accessFlags := 1, code := none }
def k1c1 : Code := { maxStack := 11, maxLocals := 44, code := code, exceptionTable := #[], attributes := #[] }
def k1m1 : Method := { name := "law", desc := "(IIIII)Z", sig := { parameters := [.int, .int, .int, .int, .int], returnType := some .boolean }, accessFlags := 9, code := some k1c1 }
def k1c2 : Code := { maxStack := 2, maxLocals := 5, code := method_3_code, exceptionTable := #[], attributes := #[] }
def k1m2 : Method := { name := "listedExpected", desc := "(I[Z[I[Z[I)Z", sig := { parameters := [.int, (.array .boolean), (.array .int), (.array .boolean), (.array .int)], returnType := some .boolean }, accessFlags := 10, code := some k1c2 }
def k1c3 : Code := { maxStack := 6, maxLocals := 11, code := method_4_code, exceptionTable := #[], attributes := #[] }
def k1m3 : Method := { name := "valueExpected", desc := "(I[Z[I[D[Z[I[DD)D", sig := { parameters := [.int, (.array .boolean), (.array .int), (.array .double), (.array .boolean), (.array .int), (.array .double), .double], returnType := some .double }, accessFlags := 10, code := some k1c3 }
def k1c4 : Code := { maxStack := 2, maxLocals := 3, code := method_5_code, exceptionTable := #[], attributes := #[] }
def k1m4 : Method := { name := "present", desc := "([III)Z", sig := { parameters := [(.array .int), .int, .int], returnType := some .boolean }, accessFlags := 10, code := some k1c4 }
/-- com/example/leeway/leeway/lp/SparseColumnSubtractPinLaw -/
def k1 : Class := { plain "com/example/leeway/leeway/lp/SparseColumnSubtractPinLaw" (some 0) with
  accessFlags := 49
  interfaces := #[]
  cf := some (fileOf pool1 33 #[] #[{ accessFlags := 1, nameIndex := 5, descriptorIndex := 6, attributes := #[] }, { accessFlags := 9, nameIndex := 48, descriptorIndex := 49, attributes := #[] }, { accessFlags := 10, nameIndex := 36, descriptorIndex := 37, attributes := #[] }, { accessFlags := 10, nameIndex := 44, descriptorIndex := 45, attributes := #[] }, { accessFlags := 10, nameIndex := 40, descriptorIndex := 41, attributes := #[] }] 49 2 #[] #[])
  fields := #[]
  methods := #[k1m0, k1m1, k1m2, k1m3, k1m4]
  instanceTypes := #[]
  staticTypes := #[]
  resolved := Array.replicate 59 none
  statics := none }

def pool2 : Array CpInfo := pool [(1, .methodref 2 3), (0, .class_ 4), (0, .nameAndType 5 6), (0, u "java/lang/Object"), (0, u "<init>"), (0, u "()V"), (0, .fieldref 8 9), (0, .class_ 10), (0, .nameAndType 11 12), (0, u "com/example/leeway/leeway/lp/SparseColumn"), (0, u "values"), (0, u "[D"), (0, .fieldref 8 14), (0, .nameAndType 15 16), (0, u "listed"), (0, u "[Z"), (0, .fieldref 8 18), (0, .nameAndType 19 20), (0, u "rows"), (0, u "[I"), (0, .fieldref 8 22), (0, .nameAndType 23 24), (0, u "count"), (0, u "I"), (0, u "(I)V"), (2, u "()[D"), (0, u "()[I"), (0, u "()I"), (2, u "add"), (0, u "(ID)V"), (0, u "subtract"), (0, u "([I[DIID)V")] 2

def k2c0 : Code := { maxStack := 2, maxLocals := 2, code := prog_87_method_1_code, exceptionTable := #[], attributes := #[] }
def k2m0 : Method := { name := "<init>", desc := "(I)V", sig := { parameters := [.int], returnType := none }, accessFlags := 0, code := some k2c0 }
def k2c1 : Code := { maxStack := 1, maxLocals := 1, code := prog_87_method_2_code, exceptionTable := #[], attributes := #[] }
def k2m1 : Method := { name := "values", desc := "()[D", sig := { parameters := [], returnType := some (.array .double) }, accessFlags := 0, code := some k2c1 }
def k2c2 : Code := { maxStack := 1, maxLocals := 1, code := prog_87_method_3_code, exceptionTable := #[], attributes := #[] }
def k2m2 : Method := { name := "rows", desc := "()[I", sig := { parameters := [], returnType := some (.array .int) }, accessFlags := 0, code := some k2c2 }
def k2c3 : Code := { maxStack := 1, maxLocals := 1, code := prog_87_method_4_code, exceptionTable := #[], attributes := #[] }
def k2m3 : Method := { name := "count", desc := "()I", sig := { parameters := [], returnType := some .int }, accessFlags := 0, code := some k2c3 }
def k2c4 : Code := { maxStack := 6, maxLocals := 4, code := prog_87_method_6_code, exceptionTable := #[], attributes := #[] }
def k2m4 : Method := { name := "add", desc := "(ID)V", sig := { parameters := [.int, .double], returnType := none }, accessFlags := 0, code := some k2c4 }
def k2c5 : Code := { maxStack := 8, maxLocals := 9, code := prog_87_method_7_code, exceptionTable := #[], attributes := #[] }
def k2m5 : Method := { name := "subtract", desc := "([I[DIID)V", sig := { parameters := [(.array .int), (.array .double), .int, .int, .double], returnType := none }, accessFlags := 0, code := some k2c5 }
/-- com/example/leeway/leeway/lp/SparseColumn -/
def k2 : Class := { plain "com/example/leeway/leeway/lp/SparseColumn" (some 0) with
  accessFlags := 48
  interfaces := #[]
  cf := some (fileOf pool2 8 #[] #[{ accessFlags := 0, nameIndex := 5, descriptorIndex := 25, attributes := #[] }, { accessFlags := 0, nameIndex := 11, descriptorIndex := 28, attributes := #[] }, { accessFlags := 0, nameIndex := 19, descriptorIndex := 29, attributes := #[] }, { accessFlags := 0, nameIndex := 23, descriptorIndex := 30, attributes := #[] }, { accessFlags := 0, nameIndex := 33, descriptorIndex := 34, attributes := #[] }, { accessFlags := 0, nameIndex := 35, descriptorIndex := 36, attributes := #[] }] 48 2 #[] #[{ accessFlags := 18, nameIndex := 11, descriptorIndex := 12, attributes := #[] }, { accessFlags := 18, nameIndex := 15, descriptorIndex := 16, attributes := #[] }, { accessFlags := 18, nameIndex := 19, descriptorIndex := 20, attributes := #[] }, { accessFlags := 2, nameIndex := 23, descriptorIndex := 24, attributes := #[] }])
  fields := #[{ name := "values", type := (.array .double), accessFlags := 18, slot := 0, constantValue := 0 }, { name := "listed", type := (.array .boolean), accessFlags := 18, slot := 1, constantValue := 0 }, { name := "rows", type := (.array .int), accessFlags := 18, slot := 2, constantValue := 0 }, { name := "count", type := .int, accessFlags := 2, slot := 3, constantValue := 0 }]
  methods := #[k2m0, k2m1, k2m2, k2m3, k2m4, k2m5]
  instanceTypes := #[(.array .double), (.array .boolean), (.array .int), .int]
  staticTypes := #[]
  resolved := Array.replicate 39 none
  statics := none }

def pool3 : Array CpInfo := pool [(1, u "java/lang/Cloneable"), (0, .class_ 1), (0, u "java/lang/Object"), (0, .class_ 3)] 3

/-- java/lang/Cloneable -/
def k3 : Class := { plain "java/lang/Cloneable" (some 0) with
  accessFlags := 1537
  interfaces := #[]
  cf := some (fileOf pool3 2 #[] #[] 1537 4 #[] #[])
  fields := #[]
  methods := #[]
  instanceTypes := #[]
  staticTypes := #[]
  resolved := Array.replicate 8 none
  statics := none }

def pool4 : Array CpInfo := pool [(1, u "java/io/Serializable"), (0, .class_ 1), (0, u "java/lang/Object"), (0, .class_ 3)] 3

/-- java/io/Serializable -/
def k4 : Class := { plain "java/io/Serializable" (some 0) with
  accessFlags := 1537
  interfaces := #[]
  cf := some (fileOf pool4 2 #[] #[] 1537 4 #[] #[])
  fields := #[]
  methods := #[]
  instanceTypes := #[]
  staticTypes := #[]
  resolved := Array.replicate 8 none
  statics := none }

/-- the primitive boolean -/
def k5 : Class := { plain "boolean" none with kind := .primitive 'Z', accessFlags := 0x411 }
/-- [Z -/
def k6 : Class := { plain "[Z" (some 0) with kind := .array 5 .boolean, interfaces := #[3, 4], accessFlags := 1041 }

/-- the primitive byte -/
def k7 : Class := { plain "byte" none with kind := .primitive 'B', accessFlags := 0x411 }
/-- [B -/
def k8 : Class := { plain "[B" (some 0) with kind := .array 7 .byte, interfaces := #[3, 4], accessFlags := 1041 }

/-- the primitive double -/
def k9 : Class := { plain "double" none with kind := .primitive 'D', accessFlags := 0x411 }
/-- [D -/
def k10 : Class := { plain "[D" (some 0) with kind := .array 9 .double, interfaces := #[3, 4], accessFlags := 1041 }

/-- the primitive int -/
def k11 : Class := { plain "int" none with kind := .primitive 'I', accessFlags := 0x411 }
/-- [I -/
def k12 : Class := { plain "[I" (some 0) with kind := .array 11 .int, interfaces := #[3, 4], accessFlags := 1041 }

def heap : Heap := #[]
def classes : Array Class := #[k0, k1, k2, k3, k4, k5, k6, k7, k8, k9, k10, k11, k12]
def interned : List (Array UInt16 × Addr) := []
def slotsUsed : Nat := 0
def theMethod : MethodId := ⟨1, 1⟩
def args0 : Array Value := #[.int 5, .int 7, .int 3, .int 2, .int 1]
def aboutOver (below : List Frame) : State where
  vm := { classes := classes, interned := interned.toArray }
  heap := heap
  slotsUsed := slotsUsed
  threads := #[{ frames := .invoking theMethod args0 :: below }]
def below0 : List Frame := [.native { method := ⟨0, 0⟩, args := #[] }]
def about1 : State := aboutOver below0
def p0 : Program := .bare "" "" ""
def e0 : Env := launch0.env 0 0 0
theorem w_frames : about1.frames = Frame.invoking theMethod args0 :: below0 := rfl
set_option maxRecDepth 65536 in
theorem w_args : argsFit about1.vm theMethod args0 = true := by decide +kernel
set_option maxRecDepth 65536 in
theorem w_heap : heapFits about1 = true := by decide +kernel
set_option maxRecDepth 65536 in
theorem w_runnable : about1.curStatus? = some .runnable := by decide +kernel
set_option maxRecDepth 65536 in
theorem w_alone : about1.alone = true := by decide +kernel
set_option maxRecDepth 65536 in
theorem w_named : about1.methodNamed? x = some theMethod := by decide +kernel
set_option maxRecDepth 65536 in
theorem w_hears : about1.hears theMethod below0 = true := by decide +kernel
set_option maxRecDepth 65536 in
theorem w_ripe : about1.ripe theMethod args0 below0 = true := by decide +kernel
theorem w_running : about1.status = .running := rfl
set_option maxRecDepth 65536 in
theorem w_room : about1.hasRoom e0.platform room_1 = true :=
  launch0.hasRoom_least _ room_1 (by decide +kernel) (by decide +kernel) (by decide +kernel) (by decide +kernel) (by decide +kernel) (by decide +kernel)
theorem allAtoms_all (ts : List Jvm.Cond) (a : Array Jvm.Value) (st : Jvm.State) : (allAtoms ts).before a st = ts.all (fun c => c.before a st) := by
  induction ts with
  | nil => rfl
  | cons c t ih =>
    show (Jvm.Cond.and c (allAtoms t)).before a st = _
    rw [Jvm.Cond.before_and, ih, List.all_cons]
def words1 : List Jvm.Cond := Jvm.Cond.code x code maxLocals ret :: tables_1
/-- a 'code' word, met by the world's own term for the bytes: nothing is compared byte by byte -/
theorem code_word {y : MethodName} {bytes : ByteArray} {mx : Nat} {rt : Option FieldType} {a : Array Value} {s : State} {m : MethodId} {meth : Method} {c : Code} (h1 : s.methodNamed? y = some m) (h2 : s.vm.method? m = some meth) (h3 : meth.code = some c) (h4 : c.code = bytes)
    (h5 : (c.maxLocals == mx && c.exceptionTable.isEmpty && decide (c.maxStack ≤ mostOperands) && decide (meth.sig.returnType = rt) && !meth.locks && decide (parseMethodDescriptor y.desc = some meth.sig)) = true) : (Jvm.Cond.code y bytes mx rt).before a s = true := by
  simp only [Bool.and_eq_true, beq_iff_eq, Bool.not_eq_true', decide_eq_true_eq] at h5
  obtain ⟨⟨⟨⟨⟨g1, g2⟩, g3⟩, g4⟩, g5⟩, g6⟩ := h5
  simp [Cond.before, Cond.holds, Cond.value, h1, h2, h3, h4, g1, g2, g3, g4, g5, g6]
def isCode : Jvm.Cond → Bool
  | .code _ _ _ _ => true
  | _ => false
theorem all_split {L : List Jvm.Cond} {P : Jvm.Cond → Bool} (h1 : L.all (fun c => isCode c || P c) = true) (h2 : ∀ c ∈ L.filter isCode, P c = true) : L.all P = true := by
  refine List.all_eq_true.mpr fun c hc => ?_
  have h := List.all_eq_true.mp h1 c hc
  rcases Bool.eq_false_or_eq_true (isCode c) with hi | hi
  · exact h2 c (List.mem_filter.mpr ⟨hc, hi⟩)
  · simpa [hi] using h
set_option maxRecDepth 65536 in
theorem w_c0 : (Jvm.Cond.code x code maxLocals ret).before args0 about1 = true := code_word (m := ⟨1, 1⟩) (meth := k1m1) (c := k1c1) (by decide +kernel) rfl rfl rfl (by decide +kernel)
set_option maxRecDepth 65536 in
theorem w_c1 : (Jvm.Cond.code ({ cls := "com/example/leeway/leeway/lp/SparseColumn", name := "<init>", desc := "(I)V" } : Jvm.MethodName) prog_87_method_1_code (2 : Nat) (Option.none : Option Jvm.ClassFile.FieldType)).before args0 about1 = true := code_word (m := ⟨2, 0⟩) (meth := k2m0) (c := k2c0) (by decide +kernel) rfl rfl rfl (by decide +kernel)
set_option maxRecDepth 65536 in
theorem w_c2 : (Jvm.Cond.code ({ cls := "java/lang/Object", name := "<init>", desc := "()V" } : Jvm.MethodName) object_method_1_code (1 : Nat) (Option.none : Option Jvm.ClassFile.FieldType)).before args0 about1 = true := code_word (m := ⟨0, 0⟩) (meth := k0m0) (c := k0c0) (by decide +kernel) rfl rfl rfl (by decide +kernel)
set_option maxRecDepth 65536 in
theorem w_c3 : (Jvm.Cond.code ({ cls := "com/example/leeway/leeway/lp/SparseColumn", name := "subtract", desc := "([I[DIID)V" } : Jvm.MethodName) prog_87_method_7_code (9 : Nat) (Option.none : Option Jvm.ClassFile.FieldType)).before args0 about1 = true := code_word (m := ⟨2, 5⟩) (meth := k2m5) (c := k2c5) (by decide +kernel) rfl rfl rfl (by decide +kernel)
set_option maxRecDepth 65536 in
theorem w_c4 : (Jvm.Cond.code ({ cls := "com/example/leeway/leeway/lp/SparseColumn", name := "values", desc := "()[D" } : Jvm.MethodName) prog_87_method_2_code (1 : Nat) (Option.some (Jvm.ClassFile.FieldType.array Jvm.ClassFile.FieldType.double))).before args0 about1 = true := code_word (m := ⟨2, 1⟩) (meth := k2m1) (c := k2c1) (by decide +kernel) rfl rfl rfl (by decide +kernel)
set_option maxRecDepth 65536 in
theorem w_c5 : (Jvm.Cond.code ({ cls := "com/example/leeway/leeway/lp/SparseColumn", name := "rows", desc := "()[I" } : Jvm.MethodName) prog_87_method_3_code (1 : Nat) (Option.some (Jvm.ClassFile.FieldType.array Jvm.ClassFile.FieldType.int))).before args0 about1 = true := code_word (m := ⟨2, 2⟩) (meth := k2m2) (c := k2c2) (by decide +kernel) rfl rfl rfl (by decide +kernel)
set_option maxRecDepth 65536 in
theorem w_c6 : (Jvm.Cond.code ({ cls := "com/example/leeway/leeway/lp/SparseColumn", name := "count", desc := "()I" } : Jvm.MethodName) prog_87_method_4_code (1 : Nat) (Option.some Jvm.ClassFile.FieldType.int)).before args0 about1 = true := code_word (m := ⟨2, 3⟩) (meth := k2m3) (c := k2c3) (by decide +kernel) rfl rfl rfl (by decide +kernel)
set_option maxRecDepth 65536 in
theorem w_c7 : (Jvm.Cond.code ({ cls := "com/example/leeway/leeway/lp/SparseColumnSubtractPinLaw", name := "listedExpected", desc := "(I[Z[I[Z[I)Z" } : Jvm.MethodName) method_3_code (5 : Nat) (Option.some Jvm.ClassFile.FieldType.boolean)).before args0 about1 = true := code_word (m := ⟨1, 2⟩) (meth := k1m2) (c := k1c2) (by decide +kernel) rfl rfl rfl (by decide +kernel)
set_option maxRecDepth 65536 in
theorem w_c8 : (Jvm.Cond.code ({ cls := "com/example/leeway/leeway/lp/SparseColumnSubtractPinLaw", name := "present", desc := "([III)Z" } : Jvm.MethodName) method_5_code (3 : Nat) (Option.some Jvm.ClassFile.FieldType.boolean)).before args0 about1 = true := code_word (m := ⟨1, 4⟩) (meth := k1m4) (c := k1c4) (by decide +kernel) rfl rfl rfl (by decide +kernel)
set_option maxRecDepth 65536 in
theorem w_c9 : (Jvm.Cond.code ({ cls := "com/example/leeway/leeway/lp/SparseColumnSubtractPinLaw", name := "valueExpected", desc := "(I[Z[I[D[Z[I[DD)D" } : Jvm.MethodName) method_4_code (11 : Nat) (Option.some Jvm.ClassFile.FieldType.double)).before args0 about1 = true := code_word (m := ⟨1, 3⟩) (meth := k1m3) (c := k1c3) (by decide +kernel) rfl rfl rfl (by decide +kernel)
set_option maxRecDepth 65536 in
theorem w_c10 : (Jvm.Cond.code ({ cls := "com/example/leeway/leeway/lp/SparseColumn", name := "add", desc := "(ID)V" } : Jvm.MethodName) prog_87_method_6_code (4 : Nat) (Option.none : Option Jvm.ClassFile.FieldType)).before args0 about1 = true := code_word (m := ⟨2, 4⟩) (meth := k2m4) (c := k2c4) (by decide +kernel) rfl rfl rfl (by decide +kernel)
def codes1 : List Jvm.Cond := [Jvm.Cond.code x code maxLocals ret, Jvm.Cond.code ({ cls := "com/example/leeway/leeway/lp/SparseColumn", name := "<init>", desc := "(I)V" } : Jvm.MethodName) prog_87_method_1_code (2 : Nat) (Option.none : Option Jvm.ClassFile.FieldType), Jvm.Cond.code ({ cls := "java/lang/Object", name := "<init>", desc := "()V" } : Jvm.MethodName) object_method_1_code (1 : Nat) (Option.none : Option Jvm.ClassFile.FieldType), Jvm.Cond.code ({ cls := "com/example/leeway/leeway/lp/SparseColumn", name := "subtract", desc := "([I[DIID)V" } : Jvm.MethodName) prog_87_method_7_code (9 : Nat) (Option.none : Option Jvm.ClassFile.FieldType), Jvm.Cond.code ({ cls := "com/example/leeway/leeway/lp/SparseColumn", name := "values", desc := "()[D" } : Jvm.MethodName) prog_87_method_2_code (1 : Nat) (Option.some (Jvm.ClassFile.FieldType.array Jvm.ClassFile.FieldType.double)), Jvm.Cond.code ({ cls := "com/example/leeway/leeway/lp/SparseColumn", name := "rows", desc := "()[I" } : Jvm.MethodName) prog_87_method_3_code (1 : Nat) (Option.some (Jvm.ClassFile.FieldType.array Jvm.ClassFile.FieldType.int)), Jvm.Cond.code ({ cls := "com/example/leeway/leeway/lp/SparseColumn", name := "count", desc := "()I" } : Jvm.MethodName) prog_87_method_4_code (1 : Nat) (Option.some Jvm.ClassFile.FieldType.int), Jvm.Cond.code ({ cls := "com/example/leeway/leeway/lp/SparseColumnSubtractPinLaw", name := "listedExpected", desc := "(I[Z[I[Z[I)Z" } : Jvm.MethodName) method_3_code (5 : Nat) (Option.some Jvm.ClassFile.FieldType.boolean), Jvm.Cond.code ({ cls := "com/example/leeway/leeway/lp/SparseColumnSubtractPinLaw", name := "present", desc := "([III)Z" } : Jvm.MethodName) method_5_code (3 : Nat) (Option.some Jvm.ClassFile.FieldType.boolean), Jvm.Cond.code ({ cls := "com/example/leeway/leeway/lp/SparseColumnSubtractPinLaw", name := "valueExpected", desc := "(I[Z[I[D[Z[I[DD)D" } : Jvm.MethodName) method_4_code (11 : Nat) (Option.some Jvm.ClassFile.FieldType.double), Jvm.Cond.code ({ cls := "com/example/leeway/leeway/lp/SparseColumn", name := "add", desc := "(ID)V" } : Jvm.MethodName) prog_87_method_6_code (4 : Nat) (Option.none : Option Jvm.ClassFile.FieldType)]
set_option maxRecDepth 65536 in
theorem codes_eq : words1.filter isCode = codes1 := rfl
theorem w_codes : ∀ c ∈ words1.filter isCode, c.before args0 about1 = true := by
  rw [codes_eq]
  intro c hc
  simp only [codes1, List.mem_cons, List.not_mem_nil, or_false] at hc
  rcases hc with rfl | rfl | rfl | rfl | rfl | rfl | rfl | rfl | rfl | rfl | rfl
  · exact w_c0
  · exact w_c1
  · exact w_c2
  · exact w_c3
  · exact w_c4
  · exact w_c5
  · exact w_c6
  · exact w_c7
  · exact w_c8
  · exact w_c9
  · exact w_c10
set_option maxRecDepth 65536 in
theorem w_t1 : (words1.take 24).all (fun c => isCode c || c.before args0 about1) = true := by decide +kernel
set_option maxRecDepth 65536 in
theorem w_t2 : ((words1.drop 24).take 24).all (fun c => isCode c || c.before args0 about1) = true := by decide +kernel
set_option maxRecDepth 65536 in
theorem w_t3 : ((words1.drop 24).drop 24).all (fun c => isCode c || c.before args0 about1) = true := by decide +kernel
theorem w_tables : (allAtoms (Jvm.Cond.code x code maxLocals ret :: tables_1)).before args0 about1 = true := by
  rw [allAtoms_all]
  show words1.all (fun c => c.before args0 about1) = true
  refine all_split ?_ w_codes
  rw [← List.take_append_drop 24 words1, List.all_append, w_t1, ← List.take_append_drop 24 (words1.drop 24), List.all_append, w_t2, w_t3]
  rfl
set_option maxRecDepth 65536 in
theorem w_case : (Jvm.Cond.and given_1 narrow_1).before args0 about1 = true := by decide +kernel
theorem w_applies : (headSpec (Jvm.Cond.code x code maxLocals ret :: tables_1) room_1).applies x e0.platform about1 = true :=
  (Spec.applies_iff w_frames).mpr ⟨w_running, w_runnable, w_alone, w_named, w_hears, w_ripe, w_room, w_tables⟩
theorem atStart : AtStart classFile x code maxLocals ret World_1 tables_1 room_1 Calls_1 rest_1 Pre_1 launch0 p0 e0 about1 theMethod args0 below0 :=
  ⟨lists_1, trivial, launch0.admits_env _ _ _, launch0.least_env, fairChoices_fair.cas, fairChoices_fair.clock, w_frames, w_args, w_heap, w_applies, trivial, trivial, w_case⟩
end start1
theorem witness_1 : WitnessClaimed_1 := ⟨start1.p0, start1.e0, start1.about1, start1.theMethod, start1.args0, start1.below0, start1.atStart⟩
end Jvm.Pilot.@@N@@
