import JvmDerived
import JvmDerived.Pilot.@@N@@Statement
import JvmDerived.Pilot.@@N@@Code
set_option linter.unusedVariables false
set_option linter.unusedSimpArgs false
namespace Jvm.RoadKit
open Sem ClassFile Op Lib Jvm.Stand Jvm.Free Jvm.LawKit
section Own
variable {p : Program} {l : Launch} {e : Env} {R : Room} {s : State} {m : MethodId} {args : Array Value} {below : List Frame} {meth : Method} {c : Code} {T : State} {locs : List Loc} {cells slots : Nat}
theorem own_ni0 {a : Addr} : a ∉ ([] : List Addr) := List.not_mem_nil
theorem own_niS {a b : Addr} {ws : List Addr} (h : a ≠ b) (r : a ∉ ws) : a ∉ b :: ws := fun q => (List.mem_cons.mp q).elim h r
theorem own_all0 {P : Addr → Prop} : ∀ x ∈ ([] : List Addr), P x := fun _ q => nomatch q
theorem own_allS {P : Addr → Prop} {b : Addr} {ws : List Addr} (h : P b) (r : ∀ x ∈ ws, P x) : ∀ x ∈ b :: ws, P x := fun x q => (List.mem_cons.mp q).elim (fun e => e ▸ h) (r x)
theorem own_arvL {Z : State} {h : Heap} {a : Addr} {k : ClassId} {ty : FieldType} {n : Int32} {vs vs1 : List Value} {d : Value} (q : vs = vs1) (F : Arv Z h a k ty n vs d) : Arv Z h a k ty n vs1 d := q ▸ F
theorem own_lremM {g : JFrame} {target : State} (X : Stand p l e R s m args below meth c T locs cells slots) (hx : p.tables.exec = Jvm.exec) (hg : g.method = m) {x y : Int64} {rest : List Value} (hd : decode c.code g.pc = .ok (.lrem, 1)) (hs : g.stack = .long y :: .long x :: rest) (hy : y ≠ 0)
    (hr : Steps p.tables e below (T.setTop { g with pc := g.pc + 1, stack := .long (x % y) :: rest }) target) : Steps p.tables e below (T.setTop g) target :=
  XS.lrem X.here hx hg hd hs hy (by rw [lrem_mod]; exact hr)
theorem own_narZ {x : Int32} (h : x = (0 : Int32) ∨ x = (1 : Int32)) : nar .boolean x = x := by rcases h with rfl | rfl <;> decide
theorem own_fitZ {x : Int32} (h : x = (0 : Int32) ∨ x = (1 : Int32)) : fits .boolean (.int x) = true := by rcases h with rfl | rfl <;> decide
theorem own_fldV {Z : State} {h : Heap} {a : Addr} {C n d : String} {v v1 : Value} (q : v = v1) (F : Fld Z h a C n d v) : Fld Z h a C n d v1 := q ▸ F
theorem own_W0 {Z : State} {own : String} {h : Heap} (X : Stand p l e R s m args below meth c T locs cells slots) (eT : T.heap = h) (hZ : Z.Warmed39 s.vm) (hown : s.vm.findClass own = some m.cls) :
    ∃ vm0 k0, Stand p l e R (s.setVm vm0) m args below meth c T locs cells slots ∧ s.Since vm0 k0 ∧ k0 ≤ h.size ∧ Z.Warmed39 (s.setVm vm0).vm ∧ (s.setVm vm0).vm.findClass own = some m.cls :=
  ⟨T.vm, _, X.retabled X.warmed.wide, X.warmed.since h.size, Nat.le_refl _, State.Warmed39.trans (t := s) hZ X.warmed.wide, by rw [show (s.setVm T.vm).vm = T.vm from rfl, X.warmed.alike.findClass]; exact hown⟩
theorem own_fold {Z : State} {own : String} {vm0 vm1 : Vm} {k0 k1 : Nat} (X : Stand p l e R ((s.setVm vm0).setVm vm1) m args below meth c T locs cells slots) (hS : s.Since vm0 k0) (h2 : (s.setVm vm0).Since vm1 k1) (hn : k0 ≤ k1) (hZ : Z.Warmed39 (s.setVm vm0).vm) (hown : (s.setVm vm0).vm.findClass own = some m.cls) :
    Stand p l e R (s.setVm vm1) m args below meth c T locs cells slots ∧ s.Since vm1 k1 ∧ Z.Warmed39 (s.setVm vm1).vm ∧ (s.setVm vm1).vm.findClass own = some m.cls :=
  ⟨X, hS.trans h2 hn, State.Warmed39.trans (t := s.setVm vm0) hZ h2.1, by rw [show (s.setVm vm1).vm = vm1 from rfl, h2.1.alike.findClass]; exact hown⟩
end Own
end Jvm.RoadKit
namespace Jvm.OwnFP
open Jvm.FP Jvm.FP.Core Jvm.Free.Fl
/-- a double's worth, in units of the least positive double -/
def zv (x : UInt64) : Int := zval b64 (val64 x)
/-- x is finite and is the number i / D -/
def Ra (i : Int) (D : Nat) (x : UInt64) : Prop := DFin x ∧ zv x * (D : Int) = i * (one64 : Int)
theorem Ra.fin {i : Int} {D : Nat} {x : UInt64} (h : Ra i D x) : Fin64 x := fin64_core.mpr h.1
theorem Ra.nn {i : Int} {D : Nat} {x : UInt64} (h : Ra i D x) : NoNaN64 x := h.fin.noNaN
theorem Ra.ne_nan {i : Int} {D : Nat} {x : UInt64} (h : Ra i D x) : val64 x ≠ .nan := h.1.ne_nan
theorem oz : (0 : Int) < (one64 : Int) := Int.natCast_pos.mpr one64_pos
theorem nan_of {x : UInt64} (h : NoNaN64 x) : val64 x ≠ .nan := (notNaN_iff x).mp (noNaN64_no.mp h)
theorem mulc {a b c : Int} (hc : c ≠ 0) (h : a * c = b * c) : a = b := Int.eq_of_mul_eq_mul_right hc h
theorem al_scale {z D D' i i' o : Int} (h : z * D = i * o) (e : i * D' = i' * D) : z * D' * D = i' * o * D := by
  calc z * D' * D = z * D * D' := by ac_rfl
    _ = i * o * D' := by rw [h]
    _ = i * D' * o := by ac_rfl
    _ = i' * o * D := by rw [e]; ac_rfl
theorem al_mul {x y v D E i j o : Int} (hx : x * D = i * o) (hy : y * E = j * o) (hv : v * (D * E) = i * j * o) : x * y * (D * E) = v * o * (D * E) := by
  calc x * y * (D * E) = (x * D) * (y * E) := by ac_rfl
    _ = (i * o) * (j * o) := by rw [hx, hy]
    _ = (i * j * o) * o := by ac_rfl
    _ = v * (D * E) * o := by rw [hv]
    _ = v * o * (D * E) := by ac_rfl
theorem al_mulr {x y v D E F i j r o : Int} (hx : x * D = i * o) (hy : y * E = j * o) (hv : v * F = r * o) (h : i * j * F = r * (D * E)) : x * y * D * E * F = v * o * D * E * F := by
  calc x * y * D * E * F = (x * D) * (y * E) * F := by ac_rfl
    _ = (i * j * F) * (o * o) := by rw [hx, hy]; ac_rfl
    _ = (r * o) * o * (D * E) := by rw [h]; ac_rfl
    _ = (v * F) * o * (D * E) := by rw [hv]
    _ = v * o * D * E * F := by ac_rfl
theorem al_div {x y v D E F i j r o : Int} (hx : x * D = i * o) (hy : y * E = j * o) (hv : v * F = r * o) (h : i * E * F = r * (j * D)) : x * o * D * E * F = v * y * D * E * F := by
  calc x * o * D * E * F = (x * D) * (o * E * F) := by ac_rfl
    _ = (i * E * F) * (o * o) := by rw [hx]; ac_rfl
    _ = (r * o) * (j * o) * D := by rw [h]; ac_rfl
    _ = (v * F) * (y * E) * D := by rw [hv, hy]
    _ = v * y * D * E * F := by ac_rfl
theorem al_units {V d P Q : Nat} : V * P * d * Q = (V * (d * Q)) * P := by ac_rfl
theorem al_mag {i P D o : Nat} (h : i ≤ P * D) : i * o ≤ P * o * D := by
  calc i * o ≤ P * D * o := Nat.mul_le_mul_right _ h
    _ = P * o * D := by ac_rfl
theorem rep {i : Int} {D k : Nat} (hi : i.natAbs < 9007199254740992) (hD : D = 2 ^ k) (hk : k ≤ 1000) : ∃ V, Ra i D V := by
  have hc : i.natAbs < 2 ^ b64.p := by rw [show (2 : Nat) ^ b64.p = 9007199254740992 by decide +kernel]; exact hi
  have hq2 : b64.qmax = 971 := by decide
  obtain ⟨c', q', h1, h2⟩ := round_exact good_b64 (decide (i < 0)) (c := i.natAbs) (q := -(k : Int)) hc (by rw [qmin_b64]; omega) (by rw [hq2]; omega)
  refine ⟨of64 (round b64 (.fin (decide (i < 0)) i.natAbs (-(k : Int)))), ⟨_, _, _, by rw [val64_of64 (round_fits good_b64 _), h1]⟩, ?_⟩
  unfold zv
  rw [val64_of64 (round_fits good_b64 _), h1]
  show signed (decide (i < 0)) (inUnits c' q' b64.qmin) * _ = _
  rw [h2]
  unfold inUnits
  have e1 : signed (decide (i < 0)) i.natAbs = i := by unfold signed; by_cases h : i < 0 <;> simp [h] <;> omega
  have e2 : (-(k : Int) - b64.qmin).toNat + k = 1074 := by rw [qmin_b64]; omega
  rw [signed_mul, e1, Int.mul_assoc, hD, ← Int.natCast_mul, ← Nat.pow_add, e2]
  rfl
theorem fin_of {x V : UInt64} (hn : val64 x ≠ .nan) (hV : DFin V) (h : zv x = zv V) : DFin x := by
  cases hx : val64 x with
  | nan => exact absurd hx hn
  | fin s c q => exact ⟨s, c, q, hx⟩
  | inf s =>
    exfalso
    have h1 := hV.zval_lt
    unfold zv zval at h
    rw [hx] at h
    have h2 := congrArg Int.natAbs h
    rw [natAbs_signed, natAbs_signed] at h2
    exact absurd h2.symm (Nat.ne_of_lt h1)
theorem Ra.scale {i i' : Int} {D D' : Nat} {x : UInt64} (h : Ra i D x) (hD : 0 < D) (e : i * (D' : Int) = i' * (D : Int)) : Ra i' D' x := by
  exact ⟨h.1, mulc (c := (D : Int)) (by omega) (al_scale h.2 e)⟩
theorem Ra.same {i i' : Int} {D : Nat} {x : UInt64} (h : Ra i D x) (e : i = i') : Ra i' D x := e ▸ h
theorem Ra.add {i j : Int} {D k : Nat} {x y : UInt64} (hx : Ra i D x) (hy : Ra j D y) (h : (i + j).natAbs < 9007199254740992) (hD : D = 2 ^ k) (hk : k ≤ 1000) : Ra (i + j) D (FP.dadd x y) := by
  obtain ⟨V, hV⟩ := rep h hD hk
  have hD0 : (D : Int) ≠ 0 := by rw [hD]; exact Int.ne_of_gt (Int.natCast_pos.mpr (Nat.two_pow_pos k))
  have hs : zval b64 (val64 x) + zval b64 (val64 y) = zval b64 (val64 V) := mulc hD0 (by
    have a := hx.2; have b := hy.2; have c := hV.2
    unfold zv at a b c
    rw [Int.add_mul, a, b, c, Int.add_mul])
  have hz : zv (Core.dadd x y) = zv V := by
    unfold zv
    rw [val64_dadd]
    exact Int.le_antisymm (sum_le good_b64 hx.1 hy.1 (val64_fits x) (val64_fits y) (val64_fits V) hV.ne_nan (Int.le_of_eq hs)) (sum_ge good_b64 hx.1 hy.1 (val64_fits x) (val64_fits y) (val64_fits V) hV.ne_nan (Int.le_of_eq hs.symm))
  exact ⟨fin_of ((notNaN_iff _).mp (dadd_out hx.1.notNaN hy.1)) hV.1 hz, by show zv (Core.dadd x y) * _ = _; rw [hz, hV.2]⟩
theorem fin_negate {x : UInt64} (h : DFin x) : ∃ s c q, negate (val64 x) = .fin s c q := by
  obtain ⟨s, c, q, h⟩ := h; exact ⟨!s, c, q, by rw [h]; rfl⟩
theorem Ra.sub {i j : Int} {D k : Nat} {x y : UInt64} (hx : Ra i D x) (hy : Ra j D y) (h : (i - j).natAbs < 9007199254740992) (hD : D = 2 ^ k) (hk : k ≤ 1000) : Ra (i - j) D (FP.dsub x y) := by
  obtain ⟨V, hV⟩ := rep h hD hk
  have hD0 : (D : Int) ≠ 0 := by rw [hD]; exact Int.ne_of_gt (Int.natCast_pos.mpr (Nat.two_pow_pos k))
  have hs : zval b64 (val64 x) + zval b64 (negate (val64 y)) = zval b64 (val64 V) := mulc hD0 (by
    have a := hx.2; have b := hy.2; have c := hV.2
    unfold zv at a b c
    rw [zval_negate, Int.add_mul, Int.neg_mul, a, b, c, Int.sub_mul]
    omega)
  have hz : zv (Core.dsub x y) = zv V := by
    unfold zv
    rw [val64_dsub]
    exact Int.le_antisymm (sum_le good_b64 hx.1 (fin_negate hy.1) (val64_fits x) (negate_fits (val64_fits y)) (val64_fits V) hV.ne_nan (Int.le_of_eq hs)) (sum_ge good_b64 hx.1 (fin_negate hy.1) (val64_fits x) (negate_fits (val64_fits y)) (val64_fits V) hV.ne_nan (Int.le_of_eq hs.symm))
  exact ⟨fin_of ((notNaN_iff _).mp (dsub_out hx.1.notNaN hy.1)) hV.1 hz, by show zv (Core.dsub x y) * _ = _; rw [hz, hV.2]⟩
theorem qq : (b64.qmin - 2 * b64.qmin).toNat = (-b64.qmin).toNat := by rw [qmin_b64]; decide
/-- a product, held against a double -/
theorem mul_le {x y V : UInt64} (hx : DFin x) (hy : DFin y) (hV : val64 V ≠ .nan) (h : zv x * zv y ≤ zv V * (one64 : Int)) : zv (Core.dmul x y) ≤ zv V := by
  obtain ⟨s, c, q, ex⟩ := hx
  obtain ⟨t, d, r, ey⟩ := hy
  have fx := val64_fits x; have fy := val64_fits y
  rw [ex] at fx; rw [ey] at fy
  obtain ⟨p1, p2, p3⟩ := product_units fx fy
  unfold zv at h ⊢
  rw [val64_dmul, ex, ey, p1]
  rw [ex, ey] at h
  exact zval_round_le good_b64 (val64_fits V) hV (e0 := 2 * b64.qmin) (by rw [qmin_b64]; decide) p2 (by rw [p3, signed_xor, qq, pow_qmin64]; exact h)
theorem mul_ge {x y V : UInt64} (hx : DFin x) (hy : DFin y) (hV : val64 V ≠ .nan) (h : zv V * (one64 : Int) ≤ zv x * zv y) : zv V ≤ zv (Core.dmul x y) := by
  obtain ⟨s, c, q, ex⟩ := hx
  obtain ⟨t, d, r, ey⟩ := hy
  have fx := val64_fits x; have fy := val64_fits y
  rw [ex] at fx; rw [ey] at fy
  obtain ⟨p1, p2, p3⟩ := product_units fx fy
  unfold zv at h ⊢
  rw [val64_dmul, ex, ey, p1]
  rw [ex, ey] at h
  exact zval_round_ge good_b64 (val64_fits V) hV (e0 := 2 * b64.qmin) (by rw [qmin_b64]; decide) p2 (by rw [p3, signed_xor, qq, pow_qmin64]; exact h)
/-- the product's worth, where it is a double's -/
theorem mul_zv {x y V : UInt64} (hx : DFin x) (hy : DFin y) (hV : val64 V ≠ .nan) (h : zv x * zv y = zv V * (one64 : Int)) : zv (Core.dmul x y) = zv V :=
  Int.le_antisymm (mul_le hx hy hV (Int.le_of_eq h)) (mul_ge hx hy hV (Int.le_of_eq h.symm))
theorem Ra.mul {i j : Int} {D E k : Nat} {x y : UInt64} (hx : Ra i D x) (hy : Ra j E y) (h : (i * j).natAbs < 9007199254740992) (hD : D * E = 2 ^ k) (hk : k ≤ 1000) : Ra (i * j) (D * E) (FP.dmul x y) := by
  obtain ⟨V, hV⟩ := rep h hD hk
  have hD0 : ((D * E : Nat) : Int) ≠ 0 := by rw [hD]; exact Int.ne_of_gt (Int.natCast_pos.mpr (Nat.two_pow_pos k))
  have hv := hV.2
  rw [Int.natCast_mul] at hv hD0
  have hs : zv x * zv y = zv V * (one64 : Int) := mulc hD0 (al_mul hx.2 hy.2 hv)
  have hz : zv (Core.dmul x y) = zv V := mul_zv hx.1 hy.1 hV.ne_nan hs
  exact ⟨fin_of ((notNaN_iff _).mp (dmul_out hx.1 hy.1)) hV.1 hz, by show zv (Core.dmul x y) * _ = _; rw [hz, hV.2]⟩
/-- a product written in its least terms -/
theorem Ra.mulr {i j r : Int} {D E F k : Nat} {x y : UInt64} (hx : Ra i D x) (hy : Ra j E y) (hD : 0 < D) (hE : 0 < E) (hr : r.natAbs < 9007199254740992) (hF : F = 2 ^ k) (hk : k ≤ 1000) (h : i * j * (F : Int) = r * ((D : Int) * (E : Int))) : Ra r F (FP.dmul x y) := by
  obtain ⟨V, hV⟩ := rep hr hF hk
  have hF0 : (F : Int) ≠ 0 := by rw [hF]; exact Int.ne_of_gt (Int.natCast_pos.mpr (Nat.two_pow_pos k))
  have hs : zv x * zv y = zv V * (one64 : Int) := by
    exact mulc (c := (D : Int)) (by omega) (mulc (c := (E : Int)) (by omega) (mulc hF0 (al_mulr hx.2 hy.2 hV.2 h)))
  have hz : zv (Core.dmul x y) = zv V := mul_zv hx.1 hy.1 hV.ne_nan hs
  exact ⟨fin_of ((notNaN_iff _).mp (dmul_out hx.1 hy.1)) hV.1 hz, by show zv (Core.dmul x y) * _ = _; rw [hz, hV.2]⟩
theorem zv_abs (x : UInt64) : (zv x).natAbs = zmag b64 (val64 x) := by unfold zv zval; rw [natAbs_signed]
/-- the quotient's parts -/
theorem div_parts {x y : UInt64} (hx : DFin x) (hy : DFin y) (hz : zv y ≠ 0) : ∃ s t c d q r, val64 x = .fin s c q ∧ val64 y = .fin t d r ∧ 0 < d ∧ b64.qmin ≤ q ∧ b64.qmin ≤ r ∧ zmag b64 (val64 x) = c * 2 ^ (q - b64.qmin).toNat ∧ zmag b64 (val64 y) = d * 2 ^ (r - b64.qmin).toNat ∧ val64 (Core.ddiv x y) = roundRatio b64 (s != t) c d (q - r) := by
  obtain ⟨s, c, q, ex⟩ := hx
  obtain ⟨t, d, r, ey⟩ := hy
  have fx := val64_fits x; have fy := val64_fits y
  rw [ex] at fx; rw [ey] at fy
  have hd : d ≠ 0 := fun h => hz (by unfold zv; rw [ey, h]; simp [zval, zmag, sgn, inUnits, signed])
  refine ⟨s, t, c, d, q, r, ex, ey, Nat.pos_of_ne_zero hd, fx.2.1, fy.2.1, by rw [ex]; rfl, by rw [ey]; rfl, ?_⟩
  rw [val64_ddiv, ex, ey]
  show (if d = 0 then _ else roundRatio b64 (s != t) c d (q - r)) = _
  rw [if_neg hd]
theorem div_units {c d V : Nat} {q r e : Int} (hq : b64.qmin ≤ q) (hr : b64.qmin ≤ r) (h1 : e ≤ b64.qmin) (h2 : e ≤ q - r) :
    inUnits c (q - r) e * 2 ^ (r - b64.qmin).toNat = (c * 2 ^ (q - b64.qmin).toNat * one64) * 2 ^ (b64.qmin - e).toNat ∧
      V * 2 ^ (b64.qmin - e).toNat * d * 2 ^ (r - b64.qmin).toNat = (V * (d * 2 ^ (r - b64.qmin).toNat)) * 2 ^ (b64.qmin - e).toNat := by
  refine ⟨?_, al_units⟩
  have hn : b64.qmin < 0 := by rw [qmin_b64]; decide
  unfold inUnits
  rw [← pow_qmin64, Nat.mul_assoc, Nat.mul_assoc, Nat.mul_assoc, ← Nat.pow_add, ← Nat.pow_add, ← Nat.pow_add]
  congr 2
  omega
theorem div_mag_le {x y V : UInt64} (hx : DFin x) (hy : DFin y) (hz : zv y ≠ 0) (hV : val64 V ≠ .nan) (h : (zv x).natAbs * one64 ≤ (zv V).natAbs * (zv y).natAbs) : (zv (Core.ddiv x y)).natAbs ≤ (zv V).natAbs := by
  obtain ⟨s, t, c, d, q, r, ex, ey, hd, hq, hr, mx, my, hv⟩ := div_parts hx hy hz
  rw [zv_abs, zv_abs, hv]
  rw [zv_abs, zv_abs, zv_abs, mx, my] at h
  refine zmag_roundRatio_le good_b64 hd (val64_fits V) hV (e0 := min b64.qmin (q - r)) (by omega) (by omega) ?_
  obtain ⟨u1, u2⟩ := div_units (c := c) (d := d) (V := zmag b64 (val64 V)) hq hr (e := min b64.qmin (q - r)) (by omega) (by omega)
  refine Nat.le_of_mul_le_mul_right (c := 2 ^ (r - b64.qmin).toNat) ?_ (Nat.two_pow_pos _)
  rw [u1, u2]
  exact Nat.mul_le_mul_right _ h
theorem div_mag_ge {x y V : UInt64} (hx : DFin x) (hy : DFin y) (hz : zv y ≠ 0) (h : (zv V).natAbs * (zv y).natAbs ≤ (zv x).natAbs * one64) : (zv V).natAbs ≤ (zv (Core.ddiv x y)).natAbs := by
  obtain ⟨s, t, c, d, q, r, ex, ey, hd, hq, hr, mx, my, hv⟩ := div_parts hx hy hz
  rw [zv_abs, zv_abs, hv]
  rw [zv_abs, zv_abs, zv_abs, mx, my] at h
  refine zmag_roundRatio_ge good_b64 hd (val64_fits V) (e0 := min b64.qmin (q - r)) (by omega) (by omega) ?_
  obtain ⟨u1, u2⟩ := div_units (c := c) (d := d) (V := zmag b64 (val64 V)) hq hr (e := min b64.qmin (q - r)) (by omega) (by omega)
  refine Nat.le_of_mul_le_mul_right (c := 2 ^ (r - b64.qmin).toNat) ?_ (Nat.two_pow_pos _)
  rw [u1, u2]
  exact Nat.mul_le_mul_right _ h
theorem zv_sgn (x : UInt64) : zv x = signed (sgn (val64 x)) (zv x).natAbs := by rw [zv_abs]; rfl
theorem div_sgn {x y : UInt64} (hx : DFin x) (hy : DFin y) (hz : zv y ≠ 0) : sgn (val64 (Core.ddiv x y)) = (sgn (val64 x) != sgn (val64 y)) := by
  obtain ⟨s, t, c, d, q, r, ex, ey, -, -, -, -, -, hv⟩ := div_parts hx hy hz
  rw [hv, sgn_roundRatio, ex, ey]; rfl
theorem sgn_pos {x : UInt64} (h : 0 < zv x) : sgn (val64 x) = false := by
  rw [zv_sgn] at h
  cases hs : sgn (val64 x) with
  | false => rfl
  | true => rw [hs] at h; simp [signed] at h; omega
theorem div_nonneg {x y : UInt64} (hx : DFin x) (hy : DFin y) (h1 : 0 < zv x) (h2 : 0 < zv y) : zv (Core.ddiv x y) = ((zv (Core.ddiv x y)).natAbs : Int) := by
  have h := div_sgn hx hy (Int.ne_of_gt h2)
  rw [sgn_pos h1, sgn_pos h2] at h
  rw [zv_sgn (Core.ddiv x y), h]; simp [signed]
theorem div_ge {x y V : UInt64} (hx : DFin x) (hy : DFin y) (h1 : 0 < zv x) (h2 : 0 < zv y) (hV : 0 ≤ zv V) (h : zv V * zv y ≤ zv x * (one64 : Int)) : zv V ≤ zv (Core.ddiv x y) := by
  have k : (zv V).natAbs * (zv y).natAbs ≤ (zv x).natAbs * one64 := by
    have e1 : ((zv V).natAbs : Int) = zv V := by omega
    have e2 : ((zv y).natAbs : Int) = zv y := by omega
    have e3 : ((zv x).natAbs : Int) = zv x := by omega
    refine Int.ofNat_le.mp ?_
    rw [Int.natCast_mul, Int.natCast_mul, e1, e2, e3]; exact h
  have := div_mag_ge hx hy (Int.ne_of_gt h2) k
  rw [div_nonneg hx hy h1 h2]; omega
theorem div_le {x y V : UInt64} (hx : DFin x) (hy : DFin y) (h1 : 0 < zv x) (h2 : 0 < zv y) (hn : val64 V ≠ .nan) (hV : 0 ≤ zv V) (h : zv x * (one64 : Int) ≤ zv V * zv y) : zv (Core.ddiv x y) ≤ zv V := by
  have k : (zv x).natAbs * one64 ≤ (zv V).natAbs * (zv y).natAbs := by
    have e1 : ((zv V).natAbs : Int) = zv V := by omega
    have e2 : ((zv y).natAbs : Int) = zv y := by omega
    have e3 : ((zv x).natAbs : Int) = zv x := by omega
    refine Int.ofNat_le.mp ?_
    rw [Int.natCast_mul, Int.natCast_mul, e1, e2, e3]; exact h
  have := div_mag_le hx hy (Int.ne_of_gt h2) hn k
  rw [div_nonneg hx hy h1 h2]; omega
theorem signed_inj {s t : Bool} {n : Nat} (hn : n ≠ 0) (h : signed s n = signed t n) : s = t := by
  cases s <;> cases t <;> simp [signed] at h ⊢ <;> omega
theorem xor_back {s t v : Bool} (h : s = (v != t)) : (s != t) = v := by cases s <;> cases t <;> cases v <;> simp_all
/-- the quotient's worth, where it is a double's -/
theorem div_zv {x y V : UInt64} (hx : DFin x) (hy : DFin y) (hz : zv y ≠ 0) (hV : DFin V) (h : zv x * (one64 : Int) = zv V * zv y) : zv (Core.ddiv x y) = zv V := by
  have ha : (zv x).natAbs * one64 = (zv V).natAbs * (zv y).natAbs := by
    have := congrArg Int.natAbs h
    rwa [Int.natAbs_mul, Int.natAbs_mul, Int.natAbs_natCast] at this
  have hm : (zv (Core.ddiv x y)).natAbs = (zv V).natAbs := Nat.le_antisymm (div_mag_le hx hy hz hV.ne_nan (Nat.le_of_eq ha)) (div_mag_ge hx hy hz (Nat.le_of_eq ha.symm))
  rw [zv_sgn (Core.ddiv x y), hm, div_sgn hx hy hz]
  by_cases h0 : (zv V).natAbs = 0
  · rw [h0, Int.natAbs_eq_zero.mp h0]; exact signed_zero _
  · have k : signed (sgn (val64 x)) ((zv x).natAbs * one64) = zv x * (one64 : Int) := by rw [signed_mul, ← zv_sgn]
    rw [ha] at k
    have k2 : signed (sgn (val64 V) != sgn (val64 y)) ((zv V).natAbs * (zv y).natAbs) = zv V * zv y := by rw [signed_xor, ← zv_sgn, ← zv_sgn]
    have e := xor_back (signed_inj (n := (zv V).natAbs * (zv y).natAbs) (Nat.mul_ne_zero h0 (fun q => hz (Int.natAbs_eq_zero.mp q))) (k.trans (h.trans k2.symm)))
    rw [e, ← zv_sgn]
theorem Ra.div {i j r : Int} {D E F k : Nat} {x y : UInt64} (hx : Ra i D x) (hy : Ra j E y) (hD : 0 < D) (hE : 0 < E) (hj : j ≠ 0) (hr : r.natAbs < 9007199254740992) (hF : F = 2 ^ k) (hk : k ≤ 1000) (h : i * (E : Int) * (F : Int) = r * (j * (D : Int))) : Ra r F (FP.ddiv x y) := by
  obtain ⟨V, hV⟩ := rep hr hF hk
  have hF0 : (F : Int) ≠ 0 := by rw [hF]; exact Int.ne_of_gt (Int.natCast_pos.mpr (Nat.two_pow_pos k))
  have hy0 : zv y ≠ 0 := fun q => by
    have := hy.2; rw [q, Int.zero_mul] at this
    exact (Int.mul_ne_zero hj (Int.ne_of_gt oz)) this.symm
  have hs : zv x * (one64 : Int) = zv V * zv y := by
    exact mulc (c := (D : Int)) (by omega) (mulc (c := (E : Int)) (by omega) (mulc hF0 (al_div hx.2 hy.2 hV.2 h)))
  have hz : zv (Core.ddiv x y) = zv V := div_zv hx.1 hy.1 hy0 hV.1 hs
  have hyz : ¬ DZero y := fun q => hy0 (by unfold zv; exact DZero.zval q)
  exact ⟨fin_of ((notNaN_iff _).mp (ddiv_out hx.1.notNaN hy.1 hyz)) hV.1 hz, by show zv (Core.ddiv x y) * _ = _; rw [hz, hV.2]⟩
/-- two quotients of one ratio are of one worth -/
theorem div_alike {x y x' y' : UInt64} (hx : DFin x) (hy : DFin y) (hx' : DFin x') (hy' : DFin y') (hz : zv y ≠ 0) (hz' : zv y' ≠ 0) (h : zv x * zv y' = zv x' * zv y) : zv (Core.ddiv x y) = zv (Core.ddiv x' y') := by
  have ha : (zv x).natAbs * (zv y').natAbs = (zv x').natAbs * (zv y).natAbs := by
    have := congrArg Int.natAbs h
    rwa [Int.natAbs_mul, Int.natAbs_mul] at this
  have hsg := div_sgn hx hy hz
  have hsg' := div_sgn hx' hy' hz'
  obtain ⟨s, t, c, d, q, r, ex, ey, hd, hq, hr, mx, my, hv⟩ := div_parts hx hy hz
  obtain ⟨s', t', c', d', q', r', ex', ey', hd', hq', hr', mx', my', hv'⟩ := div_parts hx' hy' hz'
  have hm : (zv (Core.ddiv x y)).natAbs = (zv (Core.ddiv x' y')).natAbs := by
    rw [zv_abs, zv_abs, zv_abs, zv_abs, mx, my, mx', my'] at ha
    rw [zv_abs, zv_abs, hv, hv']
    have e : roundRatio b64 (s != t) c d (q - r) = roundRatio b64 (s != t) c' d' (q' - r') := by
      refine roundRatio_congr hd hd' ?_
      have g1 : ∃ T, (q - b64.qmin).toNat + (r' - b64.qmin).toNat = (q - r - (q' - r')).toNat + T ∧ (q' - b64.qmin).toNat + (r - b64.qmin).toNat = (q' - r' - (q - r)).toNat + T := ⟨(min ((q - b64.qmin) + (r' - b64.qmin)) ((q' - b64.qmin) + (r - b64.qmin))).toNat, by omega, by omega⟩
      obtain ⟨T, g1, g2⟩ := g1
      refine Nat.eq_of_mul_eq_mul_right (Nat.two_pow_pos T) ?_
      calc c * d' * 2 ^ (q - r - (q' - r')).toNat * 2 ^ T = (c * 2 ^ (q - b64.qmin).toNat) * (d' * 2 ^ (r' - b64.qmin).toNat) := by rw [Nat.mul_assoc, ← Nat.pow_add, ← g1, Nat.pow_add]; ac_rfl
        _ = (c' * 2 ^ (q' - b64.qmin).toNat) * (d * 2 ^ (r - b64.qmin).toNat) := ha
        _ = c' * d * 2 ^ (q' - r' - (q - r)).toNat * 2 ^ T := by rw [Nat.mul_assoc (c' * d), ← Nat.pow_add, ← g2, Nat.pow_add]; ac_rfl
    rw [e]
    rcases roundRatio_cases b64 (s != t) c' d' (q' - r') with ⟨a, b, g⟩ | g <;> rcases roundRatio_cases b64 (s' != t') c' d' (q' - r') with ⟨a', b', g'⟩ | g'
    all_goals first
      | (have := negate_roundRatio b64 (s' != t') c' d' (q' - r')
         by_cases w : (s != t) = (s' != t')
         · rw [w]
         · rw [show (s != t) = !(s' != t') by cases s <;> cases t <;> cases s' <;> cases t' <;> simp_all, ← this]
           rw [g']; rfl)
  rw [zv_sgn (Core.ddiv x y), zv_sgn (Core.ddiv x' y'), hm, hsg, hsg']
  by_cases h0 : (zv (Core.ddiv x' y')).natAbs = 0
  · rw [h0, signed_zero, signed_zero]
  · by_cases hx0 : (zv x').natAbs = 0
    · exfalso; apply h0
      have := div_mag_le (V := (0 : UInt64)) hx' hy' hz' (by rw [val64_zero]; exact Datum.noConfusion) (by rw [hx0, Nat.zero_mul]; exact Nat.zero_le _)
      have z0 : zv 0 = 0 := zval64_zero
      rw [z0] at this; simpa using this
    · congr 1
      have hy1 : (zv y).natAbs ≠ 0 := fun q => hz (Int.natAbs_eq_zero.mp q)
      have k : signed (sgn (val64 x) != sgn (val64 y')) ((zv x').natAbs * (zv y).natAbs) = signed (sgn (val64 x') != sgn (val64 y)) ((zv x').natAbs * (zv y).natAbs) := by
        rw [← ha, signed_xor, ha, signed_xor, ← zv_sgn, ← zv_sgn, ← zv_sgn, ← zv_sgn]; exact h
      have k2 := signed_inj (Nat.mul_ne_zero hx0 hy1) k
      revert k2
      generalize sgn (val64 x) = a; generalize sgn (val64 y) = b; generalize sgn (val64 x') = a'; generalize sgn (val64 y') = b'
      cases a <;> cases b <;> cases a' <;> cases b' <;> simp
/-- comparisons -/
theorem cv_lt {x y : UInt64} (nx : val64 x ≠ .nan) (ny : val64 y ≠ .nan) (h : zv x < zv y) (o : Jvm.ClassFile.CmpOp) : Jvm.Op.cmpValue (FP.dcmp x y) o = -1 := by
  rw [show FP.dcmp x y = some .lt from dcmp_lt.mpr ⟨nx, ny, h⟩]; cases o <;> rfl
theorem cv_eq {x y : UInt64} (nx : val64 x ≠ .nan) (ny : val64 y ≠ .nan) (h : zv x = zv y) (o : Jvm.ClassFile.CmpOp) : Jvm.Op.cmpValue (FP.dcmp x y) o = 0 := by
  rw [show FP.dcmp x y = some .eq from dcmp_eq.mpr ⟨nx, ny, h⟩]; cases o <;> rfl
theorem cv_gt {x y : UInt64} (nx : val64 x ≠ .nan) (ny : val64 y ≠ .nan) (h : zv y < zv x) (o : Jvm.ClassFile.CmpOp) : Jvm.Op.cmpValue (FP.dcmp x y) o = 1 := by
  rw [show FP.dcmp x y = some .gt from dcmp_gt.mpr ⟨nx, ny, h⟩]; cases o <;> rfl
theorem cv_le {x y : UInt64} (nx : val64 x ≠ .nan) (ny : val64 y ≠ .nan) (h : zv x ≤ zv y) (o : Jvm.ClassFile.CmpOp) : ¬ (0 : Int32) < Jvm.Op.cmpValue (FP.dcmp x y) o := by
  rcases Int.lt_or_eq_of_le h with q | q
  · rw [cv_lt nx ny q]; decide
  · rw [cv_eq nx ny q]; decide
theorem cv_ge {x y : UInt64} (nx : val64 x ≠ .nan) (ny : val64 y ≠ .nan) (h : zv y ≤ zv x) (o : Jvm.ClassFile.CmpOp) : ¬ Jvm.Op.cmpValue (FP.dcmp x y) o < (0 : Int32) := by
  rcases Int.lt_or_eq_of_le h with q | q
  · rw [cv_gt nx ny q]; decide
  · rw [cv_eq nx ny q.symm]; decide
theorem cv_lt' {x y : UInt64} (nx : val64 x ≠ .nan) (ny : val64 y ≠ .nan) (h : zv x < zv y) (o : Jvm.ClassFile.CmpOp) : Jvm.Op.cmpValue (FP.dcmp x y) o < (0 : Int32) := by rw [cv_lt nx ny h]; decide
theorem cv_gt' {x y : UInt64} (nx : val64 x ≠ .nan) (ny : val64 y ≠ .nan) (h : zv y < zv x) (o : Jvm.ClassFile.CmpOp) : (0 : Int32) < Jvm.Op.cmpValue (FP.dcmp x y) o := by rw [cv_gt nx ny h]; decide
theorem zv_lt {i j : Int} {D : Nat} {x y : UInt64} (hx : Ra i D x) (hy : Ra j D y) (hD : 0 < D) (h : i < j) : zv x < zv y := by
  refine Int.lt_of_mul_lt_mul_right (a := (D : Int)) ?_ (by omega)
  rw [hx.2, hy.2]; exact Int.mul_lt_mul_of_pos_right h oz
theorem zv_eq {i j : Int} {D : Nat} {x y : UInt64} (hx : Ra i D x) (hy : Ra j D y) (hD : 0 < D) (h : i = j) : zv x = zv y :=
  mulc (c := (D : Int)) (by omega) (by rw [hx.2, hy.2, h])
theorem Ra.lt {i j : Int} {D : Nat} {x y : UInt64} (hx : Ra i D x) (hy : Ra j D y) (hD : 0 < D) (h : i < j) (o : Jvm.ClassFile.CmpOp) : Jvm.Op.cmpValue (FP.dcmp x y) o = -1 := cv_lt hx.ne_nan hy.ne_nan (zv_lt hx hy hD h) o
theorem Ra.gt {i j : Int} {D : Nat} {x y : UInt64} (hx : Ra i D x) (hy : Ra j D y) (hD : 0 < D) (h : j < i) (o : Jvm.ClassFile.CmpOp) : Jvm.Op.cmpValue (FP.dcmp x y) o = 1 := cv_gt hx.ne_nan hy.ne_nan (zv_lt hy hx hD h) o
theorem Ra.eq {i j : Int} {D : Nat} {x y : UInt64} (hx : Ra i D x) (hy : Ra j D y) (hD : 0 < D) (h : i = j) (o : Jvm.ClassFile.CmpOp) : Jvm.Op.cmpValue (FP.dcmp x y) o = 0 := cv_eq hx.ne_nan hy.ne_nan (zv_eq hx hy hD h) o
theorem zv_le {i j : Int} {D : Nat} {x y : UInt64} (hx : Ra i D x) (hy : Ra j D y) (hD : 0 < D) (h : i ≤ j) : zv x ≤ zv y := by
  rcases Int.lt_or_eq_of_le h with q | q
  · exact Int.le_of_lt (zv_lt hx hy hD q)
  · exact Int.le_of_eq (zv_eq hx hy hD q)
theorem Ra.le {i j : Int} {D : Nat} {x y : UInt64} (hx : Ra i D x) (hy : Ra j D y) (hD : 0 < D) (h : i ≤ j) (o : Jvm.ClassFile.CmpOp) : ¬ (0 : Int32) < Jvm.Op.cmpValue (FP.dcmp x y) o := cv_le hx.ne_nan hy.ne_nan (zv_le hx hy hD h) o
theorem Ra.ge {i j : Int} {D : Nat} {x y : UInt64} (hx : Ra i D x) (hy : Ra j D y) (hD : 0 < D) (h : j ≤ i) (o : Jvm.ClassFile.CmpOp) : ¬ Jvm.Op.cmpValue (FP.dcmp x y) o < (0 : Int32) := cv_ge hx.ne_nan hy.ne_nan (zv_le hy hx hD h) o
theorem Ra.lt' {i j : Int} {D : Nat} {x y : UInt64} (hx : Ra i D x) (hy : Ra j D y) (hD : 0 < D) (h : i < j) (o : Jvm.ClassFile.CmpOp) : Jvm.Op.cmpValue (FP.dcmp x y) o < (0 : Int32) := cv_lt' hx.ne_nan hy.ne_nan (zv_lt hx hy hD h) o
theorem Ra.gt' {i j : Int} {D : Nat} {x y : UInt64} (hx : Ra i D x) (hy : Ra j D y) (hD : 0 < D) (h : j < i) (o : Jvm.ClassFile.CmpOp) : (0 : Int32) < Jvm.Op.cmpValue (FP.dcmp x y) o := cv_gt' hx.ne_nan hy.ne_nan (zv_lt hy hx hD h) o
theorem Ra.of_int {i : Int} {x : UInt64} (h : DInt i x) (hf : DFin x) : Ra i 1 x := ⟨hf, by show zval b64 (val64 x) * _ = _; rw [DInt_zval h]; show _ * (1 : Int) = _; rw [Int.mul_one]⟩
theorem Ra.i2d (a : Int32) : Ra a.toInt 1 (FP.i2d a) := Ra.of_int (i2d_int a) (Core.i2d_fin a)
theorem Ra.l2d {a : Int64} (h : a.toInt.natAbs ≤ 9007199254740992) : Ra a.toInt 1 (FP.l2d a) := Ra.of_int (l2d_int h) (Core.l2d_fin a)
/-- a written constant -/
theorem Ra.lit {x : UInt64} {s : Bool} {c D n : Nat} {q i : Int} {k : Nat} (h : val64 x = .fin s c q) (hD : D = 2 ^ k) (hq : q = -((k + n : Nat) : Int)) (hk : k + n ≤ 1074) (e : signed s c = i * ((2 ^ n : Nat) : Int)) : Ra i D x := by
  refine ⟨⟨s, c, q, h⟩, ?_⟩
  unfold zv
  rw [h]
  show signed s (inUnits c q b64.qmin) * _ = _
  unfold inUnits
  have e2 : n + (q - b64.qmin).toNat + k = 1074 := by rw [qmin_b64]; omega
  rw [signed_mul, e, hD, Int.mul_assoc, Int.mul_assoc, ← Int.natCast_mul, ← Int.natCast_mul, ← Nat.pow_add, ← Nat.pow_add, ← Nat.add_assoc, e2]
  rfl
theorem zv_neg (x : UInt64) : zv (FP.dneg x) = -zv x := by unfold zv; rw [Jvm.FP.val64_dneg, zval_negate]
theorem Ra.neg {i : Int} {D : Nat} {x : UInt64} (h : Ra i D x) : Ra (-i) D (FP.dneg x) := by
  obtain ⟨⟨s, c, q, ex⟩, e⟩ := h
  exact ⟨⟨!s, c, q, by rw [Jvm.FP.val64_dneg, ex]; rfl⟩, by rw [zv_neg, Int.neg_mul, e, Int.neg_mul]⟩
/-- exact products of longs -/
theorem lmul_of {x y : Int64} {a b : Int} (hx : x.toInt = a) (hy : y.toInt = b) (h1 : -9223372036854775808 ≤ a * b) (h2 : a * b < 9223372036854775808) : (x * y).toInt = a * b := by
  rw [int64_mul (by rw [hx, hy]; exact h1) (by rw [hx, hy]; exact h2), hx, hy]
theorem ladd_of {x y : Int64} {a b : Int} (hx : x.toInt = a) (hy : y.toInt = b) (h1 : -9223372036854775808 ≤ a + b) (h2 : a + b < 9223372036854775808) : (x + y).toInt = a + b := by
  rw [int64_add (by rw [hx, hy]; exact h1) (by rw [hx, hy]; exact h2), hx, hy]
theorem lsub_of {x y : Int64} {a b : Int} (hx : x.toInt = a) (hy : y.toInt = b) (h1 : -9223372036854775808 ≤ a - b) (h2 : a - b < 9223372036854775808) : (x - y).toInt = a - b := by
  rw [int64_sub (by rw [hx, hy]; exact h1) (by rw [hx, hy]; exact h2), hx, hy]
theorem lneg_of {x : Int64} {a : Int} (hx : x.toInt = a) (h1 : -9223372036854775808 < a) : (-x).toInt = -a := by
  rw [int64_neg (by rw [hx]; exact h1), hx]
theorem i2l_of {x : Int32} {a : Int} (hx : x.toInt = a) : x.toInt64.toInt = a := by rw [Int32.toInt_toInt64, hx]
theorem fin_of_le {x V : UInt64} (hn : val64 x ≠ .nan) (hV : DFin V) (h : (zv x).natAbs ≤ (zv V).natAbs) : DFin x := by
  cases hx : val64 x with
  | nan => exact absurd hx hn
  | fin s c q => exact ⟨s, c, q, hx⟩
  | inf s =>
    exfalso
    have h1 := hV.zval_lt
    rw [zv_abs, zv_abs, hx] at h
    exact absurd (Nat.lt_of_le_of_lt h h1) (Nat.lt_irrefl _)
/-- a bound on the worth bounds the bits -/
theorem mag_of {x : UInt64} {n : Nat} (hx : DFin x) (h : (zv x).natAbs ≤ 2 ^ n * one64) : Mag64 (n + 1024) x := by
  have z := zmag_bits hx.ne_nan
  rw [zv_abs, z] at h
  have hs : unitsOf b64 ((n + 1024) * b64.tails) = b64.tails * 2 ^ (n + 1024 - 1) := unitsOf_start (by omega)
  have ho : 2 ^ n * one64 < b64.tails * 2 ^ (n + 1024 - 1) := by
    rw [tails_b64, ← pow_qmin64, ← Nat.pow_add, ← Nat.pow_add, qmin_b64]
    exact Nat.pow_lt_pow_right (by decide) (by omega)
  have hl : unitsOf b64 (x.toNat % 2 ^ 63) < unitsOf b64 ((n + 1024) * b64.tails) := by rw [hs]; exact Nat.lt_of_le_of_lt h ho
  have hb := unitsOf_lt_iff.mp hl
  rw [tails_b64] at hb
  unfold Mag64
  exact hb
theorem Ra.mag {i : Int} {D n : Nat} {x : UInt64} (h : Ra i D x) (hD : 0 < D) (hi : i.natAbs ≤ 2 ^ n * D) : Mag64 (n + 1024) x := by
  refine mag_of h.1 (Nat.le_of_mul_le_mul_right (c := D) ?_ hD)
  have e := congrArg Int.natAbs h.2
  rw [Int.natAbs_mul, Int.natAbs_mul, Int.natAbs_natCast, Int.natAbs_natCast] at e
  rw [e]
  exact al_mag hi
theorem big_of {x : UInt64} (hx : DFin x) (h : one64 ≤ (zv x).natAbs) : Jvm.RoadKit.Big64 1023 x := by
  have z := zmag_bits hx.ne_nan
  rw [zv_abs, z] at h
  have hs : unitsOf b64 (1023 * b64.tails) = b64.tails * 2 ^ (1023 - 1) := unitsOf_start (by decide)
  have ho : b64.tails * 2 ^ (1023 - 1) = one64 := by rw [tails_b64, ← pow_qmin64, ← Nat.pow_add, qmin_b64]; rfl
  have hl : unitsOf b64 (1023 * b64.tails) ≤ unitsOf b64 (x.toNat % 2 ^ 63) := by rw [hs, ho]; exact h
  have hb := unitsOf_le_iff.mp hl
  rw [tails_b64] at hb
  have hf := (fin_bits x).mp hx
  exact ⟨hb, by omega⟩
theorem Ra.big {i : Int} {x : UInt64} (h : Ra i 1 x) (hi : i ≠ 0) : Jvm.RoadKit.Big64 1023 x := by
  refine big_of h.1 ?_
  have e := congrArg Int.natAbs h.2
  rw [Int.natAbs_mul, Int.natAbs_mul, Int.natAbs_natCast, Int.natAbs_natCast, Nat.mul_one] at e
  rw [e]
  exact Nat.le_mul_of_pos_left _ (Int.natAbs_pos.mpr hi)
theorem ra_zero : Ra 0 1 (0 : UInt64) := ⟨⟨_, _, _, val64_zero⟩, by rw [show zv 0 = 0 from zval64_zero, Int.zero_mul, Int.zero_mul]⟩
theorem ra_one : Ra 1 1 (4607182418800017408 : UInt64) := Ra.lit (s := false) (c := 4503599627370496) (q := -52) (k := 0) (n := 52) (by decide +kernel) rfl (by decide) (by decide) (by decide)
theorem ra_two : Ra 2 1 (4611686018427387904 : UInt64) := Ra.lit (s := false) (c := 4503599627370496) (q := -51) (k := 0) (n := 51) (by decide +kernel) rfl (by decide) (by decide) (by decide)
end Jvm.OwnFP
namespace Jvm.Pilot.@@N@@
open Jvm Jvm.ClassFile Sem Op Lib Jvm.Free Jvm.Stand Jvm.LawKit Jvm.RoadKit Bundle Jvm.Pilot.@@N@@.Jvm.D
theorem d4_0 : decode jdk_117_method_8_code 0 = .ok (.dload_n 0, 1) := by decide +kernel
theorem d4_1 : decode jdk_117_method_8_code 1 = .ok (.invokestatic 38, 3) := by decide +kernel
theorem pd_0 : parseMethodDescriptor "(D)D" = some ⟨[.double], some .double⟩ := by decide +kernel
theorem d4_4 : decode jdk_117_method_8_code 4 = .ok (.ldc2_w 111, 3) := by decide +kernel
theorem d4_7 : decode jdk_117_method_8_code 7 = .ok (.dcmp .g, 1) := by decide +kernel
theorem d4_8 : decode jdk_117_method_8_code 8 = .ok (.ifCond .gt 7, 3) := by decide +kernel
theorem d4_11 : decode jdk_117_method_8_code 11 = .ok (.iconst 1, 1) := by decide +kernel
theorem d4_12 : decode jdk_117_method_8_code 12 = .ok (.goto 4, 3) := by decide +kernel
theorem d4_16 : decode jdk_117_method_8_code 16 = .ok (.ireturn, 1) := by decide +kernel
theorem pn_java_lang_Double : plainName "java/lang/Double" = true := by first | (simp [plainName, overriddenIn]; done) | decide +kernel
theorem ef_4_D (m : MethodId) (x0 : UInt64) : entryFrame m #[(.double x0)] 2 = mkF m 0 #[.val (.double x0), .second] [] := by first | (simp [entryFrame, mkF, argsToLocals, Value.category]; done) | rfl
def Q_isf (Z : State) (d0 : UInt64) (h0 : Heap) (n0 : Nat) (v : Option Value) (h : Heap) (L : List Loc) : Prop := v = some (.int (1 : Int32)) ∧ Fr n0 L ∧ h = h0
set_option maxRecDepth 65536 in
set_option maxHeartbeats 40000000 in
theorem isf (l : Launch) (Z : State) (a0 : Array Value) (hw : ∀ d ∈ tables_1, d.before a0 Z = true) (ws : List Jvm.Cond) (d0 : UInt64) (h0 : Heap) (n0 : Nat) (Z0 : n0 ≤ h0.size) (nna1 : Jvm.Free.Fl.NoNaN64 d0) (hd7 : (cmpValue (FP.dcmp (d0 &&& 0x7fffffffffffffff) (9218868437227405311 : UInt64)) .g) = (-1 : Int32)) :
    MetFree l (⟨"java/lang/Double", "isFinite", "(D)Z"⟩ : MethodName) (head1 (Jvm.Cond.code (⟨"java/lang/Double", "isFinite", "(D)Z"⟩ : MethodName) jdk_117_method_8_code 2 (some .boolean) :: ws) ({ frames := 1, cells := 0, slots := 0, locals := 13 } : Room)) (fun a U => a = #[(.double d0)] ∧ Z.Warmed39 U.vm ∧ U.heap = h0) (fun _ _ _ _ _ => True) (fun _ U o U' => ∃ v L, o = .returned v ∧ Q_isf Z d0 h0 n0 v U'.heap L ∧ FrameEnd U o U' L ({ frames := 1, cells := 0, slots := 0, locals := 13 } : Room).cells ({ frames := 1, cells := 0, slots := 0, locals := 13 } : Room).slots) := by
  refine MetFree.of_bodySF (plainFor_of_name pn_java_lang_Double) hisR ?_
  intro p e s m args below meth c s₁ Bd hml0 hP hK
  obtain ⟨rfl, hZ, hh⟩ := hP
  have hx := Bd.exec
  have hby := Bd.bytes
  have hml : c.maxLocals = 2 := hml0
  have hown : s.vm.findClass "java/lang/Double" = some m.cls := findClass_of_methodNamed Bd.named
  have hnm := (name_of_methodNamed Bd.named Bd.method).1
  have X0 : Stand p l e ({ frames := 1, cells := 0, slots := 0, locals := 13 } : Room) s m #[(.double d0)] below meth c s₁ [] 0 0 := Stand.of_body Bd
  have e0 : s₁.heap = h0 := by rw [← hh, Bd.state]; rfl
  have N0 := Fr.nil n0
  have pre0 : ∀ t, Steps p.tables e below (s₁.setTop (mkF m 0 #[.val (.double d0), .second] [])) t → Steps p.tables e below (s₁.setTop (entryFrame m #[(.double d0)] 2)) t := fun t k => castTop (ef_4_D m d0) k
  obtain ⟨T1, X1, e1, st1⟩ := natS X0 hx hZ (y := (⟨"java/lang/Math", "abs", "(D)D"⟩ : MethodName)) hown (hw _ (List.mem_of_getElem? (i := 32) rfl)) (hw _ (List.mem_of_getElem? (i := 33) rfl)) (hw _ (List.mem_of_getElem? (i := 34) rfl)) (hw _ (List.mem_of_getElem? (i := 35) rfl)) (by decide) e0 (W := 0) (F := fun a' => a' = #[(.double d0)] ∧ Jvm.Free.Fl.NoNaN64 d0) (val := .double (d0 &&& 0x7fffffffffffffff)) (fun c4 => Jvm.Free.Fl.Abs.absD_pays d0 c4 (by decide) (by decide)) (g := (mkF m 1 #[.val (.double d0), .second] [(.double d0)])) rfl (by rw [hml]; rfl) (argsL := [(.double d0)]) (rest := []) (lenOf pd_0 rfl) rfl (by show 2 * 0 + _ ≤ _; exact Nat.le_of_eq rfl) (hb hby d4_1) (by decide) (by decide) ⟨rfl, nna1⟩ rfl
  obtain ⟨fs, hr, hrun, hended, hW, hsame⟩ := X1.leave (v := some (.int (1 : Int32))) (fun h => by rw [Bd.returns] at h; cases h)
  refine ⟨_, _, pre0 _ ?_, hrun, hended, _, _, rfl, ?_, ⟨_, rfl⟩, hW, hsame.mono (by decide) (by decide)⟩
  · show Steps p.tables e below (s₁.setTop (mkF m 0 #[.val (.double d0), .second] [])) _
    refine XS.dloadN X0.here hx rfl (hb hby d4_0) rfl ?_
    show Steps p.tables e below (s₁.setTop (mkF m 1 #[.val (.double d0), .second] [(.double d0)])) _
    refine st1 _ ?_
    show Steps p.tables e below (T1.setTop (mkF m 4 #[.val (.double d0), .second] [(.double (d0 &&& 0x7fffffffffffffff))])) _
    refine X1.ldc2DoubleC hx hown (mvT hZ (hw _ (List.mem_of_getElem? (i := 36) rfl))) (g := (mkF m 4 #[.val (.double d0), .second] [(.double (d0 &&& 0x7fffffffffffffff))])) rfl (hb hby d4_4) _ ?_
    show Steps p.tables e below (T1.setTop (mkF m 7 #[.val (.double d0), .second] [(.double (9218868437227405311 : UInt64)), (.double (d0 &&& 0x7fffffffffffffff))])) _
    refine XS.dcmpS X1.here hx rfl (hb hby d4_7) rfl (v := (-1 : Int32)) hd7 ?_
    show Steps p.tables e below (T1.setTop (mkF m 8 #[.val (.double d0), .second] [(.int (-1 : Int32))])) _
    refine XS.ifNo X1.here hx rfl (hb hby d4_8) rfl ((if0 _ _).trans (flt (by decide : ¬ ((0 : Int32) < (-1 : Int32)))).2.2.1) ?_
    show Steps p.tables e below (T1.setTop (mkF m 11 #[.val (.double d0), .second] [])) _
    refine XS.iconst X1.here hx rfl (hb hby d4_11) ?_
    show Steps p.tables e below (T1.setTop (mkF m 12 #[.val (.double d0), .second] [(.int (1 : Int32))])) _
    refine XS.goto X1.here hx rfl (pc0 := 12) (pc' := 16) rfl (hb hby d4_12) (by decide) (by decide) ?_
    show Steps p.tables e below (T1.setTop (mkF m 16 #[.val (.double d0), .second] [(.int (1 : Int32))])) _
    exact retN X1 hx (t := .boolean) Bd.returns (by simp) (hb hby d4_16) hr
  · show Q_isf Z d0 h0 n0 _ T1.heap _
    rw [e1]
    exact ⟨rfl, N0, rfl⟩
theorem d3_0 : decode prog_62_method_2_code 0 = .ok (.dload_n 1, 1) := by decide +kernel
theorem d3_1 : decode prog_62_method_2_code 1 = .ok (.invokestatic 7, 3) := by decide +kernel
theorem pd_1 : parseMethodDescriptor "(D)Z" = some ⟨[.double], some .boolean⟩ := by decide +kernel
theorem d3_4 : decode prog_62_method_2_code 4 = .ok (.ifCond .eq 9, 3) := by decide +kernel
theorem d3_7 : decode prog_62_method_2_code 7 = .ok (.dload_n 1, 1) := by decide +kernel
theorem d3_8 : decode prog_62_method_2_code 8 = .ok (.dconst 0, 1) := by decide +kernel
theorem d3_9 : decode prog_62_method_2_code 9 = .ok (.dcmp .g, 1) := by decide +kernel
theorem d3_10 : decode prog_62_method_2_code 10 = .ok (.ifCond .ge 18, 3) := by decide +kernel
theorem d3_28 : decode prog_62_method_2_code 28 = .ok (.dload_n 1, 1) := by decide +kernel
theorem d3_29 : decode prog_62_method_2_code 29 = .ok (.dreturn, 1) := by decide +kernel
theorem pn_com_example_nelira_nelira_ranking_ScorerConstants : plainName "com/example/nelira/nelira/ranking/ScorerConstants" = true := by first | (simp [plainName, overriddenIn]; done) | decide +kernel
theorem ef_3_RD (m : MethodId) (x0 : Addr) (x1 : UInt64) : entryFrame m #[(.ref x0), (.double x1)] 3 = mkF m 0 #[.val (.ref x0), .val (.double x1), .second] [] := by first | (simp [entryFrame, mkF, argsToLocals, Value.category]; done) | rfl
def Q_alz (Z : State) (q0 : Addr) (d0 : UInt64) (h0 : Heap) (n0 : Nat) (v : Option Value) (h : Heap) (L : List Loc) : Prop := v = some (.double d0) ∧ Fr n0 L ∧ h = h0
set_option maxRecDepth 65536 in
set_option maxHeartbeats 40000000 in
theorem alz (l : Launch) (Z : State) (a0 : Array Value) (hw : ∀ d ∈ tables_1, d.before a0 Z = true) (ws : List Jvm.Cond) (q0 : Addr) (d0 : UInt64) (h0 : Heap) (n0 : Nat) (Z0 : n0 ≤ h0.size) (nna1_1 : Jvm.Free.Fl.NoNaN64 d0) (hd7_1 : (cmpValue (FP.dcmp (d0 &&& 0x7fffffffffffffff) (9218868437227405311 : UInt64)) .g) = (-1 : Int32)) (hc10 : ¬ ((cmpValue (FP.dcmp d0 (0 : UInt64)) .g) < (0 : Int32))) :
    MetFree l (⟨"com/example/nelira/nelira/ranking/ScorerConstants", "atLeastZero", "(Ljava/lang/String;D)D"⟩ : MethodName) (head1 (Jvm.Cond.code (⟨"com/example/nelira/nelira/ranking/ScorerConstants", "atLeastZero", "(Ljava/lang/String;D)D"⟩ : MethodName) prog_62_method_2_code 3 (some .double) :: ws) ({ frames := 2, cells := 0, slots := 0, locals := 26 } : Room)) (fun a U => a = #[(.ref q0), (.double d0)] ∧ Z.Warmed39 U.vm ∧ U.heap = h0) (fun _ _ _ _ _ => True) (fun _ U o U' => ∃ v L, o = .returned v ∧ Q_alz Z q0 d0 h0 n0 v U'.heap L ∧ FrameEnd U o U' L ({ frames := 2, cells := 0, slots := 0, locals := 26 } : Room).cells ({ frames := 2, cells := 0, slots := 0, locals := 26 } : Room).slots) := by
  refine MetFree.of_bodySF (plainFor_of_name pn_com_example_nelira_nelira_ranking_ScorerConstants) hisR ?_
  intro p e s m args below meth c s₁ Bd hml0 hP hK
  obtain ⟨rfl, hZ, hh⟩ := hP
  have hx := Bd.exec
  have hby := Bd.bytes
  have hml : c.maxLocals = 3 := hml0
  have hown : s.vm.findClass "com/example/nelira/nelira/ranking/ScorerConstants" = some m.cls := findClass_of_methodNamed Bd.named
  have hnm := (name_of_methodNamed Bd.named Bd.method).1
  have X0 : Stand p l e ({ frames := 2, cells := 0, slots := 0, locals := 26 } : Room) s m #[(.ref q0), (.double d0)] below meth c s₁ [] 0 0 := Stand.of_body Bd
  have e0 : s₁.heap = h0 := by rw [← hh, Bd.state]; rfl
  have N0 := Fr.nil n0
  have pre0 : ∀ t, Steps p.tables e below (s₁.setTop (mkF m 0 #[.val (.ref q0), .val (.double d0), .second] [])) t → Steps p.tables e below (s₁.setTop (entryFrame m #[(.ref q0), (.double d0)] 3)) t := fun t k => castTop (ef_3_RD m q0 d0) k
  obtain ⟨_, _, ⟨T1, L1, k1, n1⟩, -, X1, ⟨Lc1, hQ1, lq1, yq1, zq1⟩, st1⟩ := Jvm.LawKit.callS X0 hx (y := (⟨"java/lang/Double", "isFinite", "(D)Z"⟩ : MethodName)) hown (mvT hZ (hw _ (List.mem_of_getElem? (i := 28) rfl))) (mvT hZ (hw _ (List.mem_of_getElem? (i := 29) rfl))) (mvT hZ (hw _ (List.mem_of_getElem? (i := 30) rfl))) (mvT hZ (hw _ (List.mem_of_getElem? (i := 31) rfl))) (by decide) (backOf (W := 0) (isf l Z a0 hw [] d0 h0 n0 Z0 nna1_1 hd7_1) hZ (hw _ (List.mem_of_getElem? (i := 31) rfl)) (hw _ (List.mem_of_getElem? (i := 30) rfl)) (by decide) (by decide)) (g := (mkF m 1 #[.val (.ref q0), .val (.double d0), .second] [(.double d0)])) rfl (by rw [hml]; rfl) (argsL := [(.double d0)]) (rest := []) (lenOf pd_1 rfl) rfl (by show 2 * 0 + _ ≤ _; exact Nat.le_of_eq rfl) (hb hby d3_1) (fun _ _ => ⟨rfl, e0, (by decide : 0 + 0 ≤ _), (by decide : 0 + 0 ≤ _)⟩)
  dsimp only [Pt.U, Pt.locs, Pt.cells, Pt.slots] at X1 lq1 yq1 zq1 st1 hQ1
  rw [lq1, yq1, zq1] at X1
  obtain ⟨rfl, N1q, eh1⟩ := hQ1
  have N1 := Fr.app N0 N1q
  have e1 : T1.heap = h0 := eh1
  obtain ⟨fs, hr, hrun, hended, hW, hsame⟩ := X1.leave (v := some (.double d0)) (fun h => by rw [Bd.returns] at h; cases h)
  refine ⟨_, _, pre0 _ ?_, hrun, hended, _, _, rfl, ?_, ⟨_, rfl⟩, hW, hsame.mono (by decide) (by decide)⟩
  · show Steps p.tables e below (s₁.setTop (mkF m 0 #[.val (.ref q0), .val (.double d0), .second] [])) _
    refine XS.dloadN X0.here hx rfl (hb hby d3_0) rfl ?_
    show Steps p.tables e below (s₁.setTop (mkF m 1 #[.val (.ref q0), .val (.double d0), .second] [(.double d0)])) _
    refine st1 _ ?_
    show Steps p.tables e below (T1.setTop (mkF m 4 #[.val (.ref q0), .val (.double d0), .second] [(.int (1 : Int32))])) _
    refine XS.ifNo X1.here hx rfl (hb hby d3_4) rfl ((if0 _ _).trans (feq (by decide : ¬ ((1 : Int32) = (0 : Int32)))).1) ?_
    show Steps p.tables e below (T1.setTop (mkF m 7 #[.val (.ref q0), .val (.double d0), .second] [])) _
    refine XS.dloadN X1.here hx rfl (hb hby d3_7) rfl ?_
    show Steps p.tables e below (T1.setTop (mkF m 8 #[.val (.ref q0), .val (.double d0), .second] [(.double d0)])) _
    refine XS.dconst0 X1.here hx rfl (hb hby d3_8) (v := (0 : UInt64)) rfl ?_
    show Steps p.tables e below (T1.setTop (mkF m 9 #[.val (.ref q0), .val (.double d0), .second] [(.double (0 : UInt64)), (.double d0)])) _
    refine XS.dcmpS X1.here hx rfl (hb hby d3_9) rfl (v := (cmpValue (FP.dcmp d0 (0 : UInt64)) .g)) rfl ?_
    show Steps p.tables e below (T1.setTop (mkF m 10 #[.val (.ref q0), .val (.double d0), .second] [(.int (cmpValue (FP.dcmp d0 (0 : UInt64)) .g))])) _
    refine XS.ifYes X1.here hx rfl (pc0 := 10) (pc' := 28) rfl (hb hby d3_10) rfl ((if0 _ _).trans (flt hc10).2.1) (by decide) (by decide) ?_
    show Steps p.tables e below (T1.setTop (mkF m 28 #[.val (.ref q0), .val (.double d0), .second] [])) _
    refine XS.dloadN X1.here hx rfl (hb hby d3_28) rfl ?_
    show Steps p.tables e below (T1.setTop (mkF m 29 #[.val (.ref q0), .val (.double d0), .second] [(.double d0)])) _
    exact retOut X1 hx Bd.returns rfl (Or.inr (Or.inr (Or.inl ⟨rfl, rfl, _, rfl⟩))) (hb hby d3_29) hr
  · show Q_alz Z q0 d0 h0 n0 _ T1.heap _
    rw [e1]
    exact ⟨rfl, N1, rfl⟩
theorem d6_0 : decode prog_62_method_3_code 0 = .ok (.dload_n 1, 1) := by decide +kernel
theorem d6_1 : decode prog_62_method_3_code 1 = .ok (.dconst 0, 1) := by decide +kernel
theorem d6_2 : decode prog_62_method_3_code 2 = .ok (.dcmp .l, 1) := by decide +kernel
theorem d6_3 : decode prog_62_method_3_code 3 = .ok (.ifCond .lt 9, 3) := by decide +kernel
theorem d6_6 : decode prog_62_method_3_code 6 = .ok (.dload_n 1, 1) := by decide +kernel
theorem d6_7 : decode prog_62_method_3_code 7 = .ok (.dconst 1, 1) := by decide +kernel
theorem d6_8 : decode prog_62_method_3_code 8 = .ok (.dcmp .g, 1) := by decide +kernel
theorem d6_9 : decode prog_62_method_3_code 9 = .ok (.ifCond .le 18, 3) := by decide +kernel
theorem d6_27 : decode prog_62_method_3_code 27 = .ok (.dload_n 1, 1) := by decide +kernel
theorem d6_28 : decode prog_62_method_3_code 28 = .ok (.dreturn, 1) := by decide +kernel
theorem ef_6_RD (m : MethodId) (x0 : Addr) (x1 : UInt64) : entryFrame m #[(.ref x0), (.double x1)] 3 = mkF m 0 #[.val (.ref x0), .val (.double x1), .second] [] := by first | (simp [entryFrame, mkF, argsToLocals, Value.category]; done) | rfl
def Q_zto (Z : State) (q0 : Addr) (d0 : UInt64) (h0 : Heap) (n0 : Nat) (v : Option Value) (h : Heap) (L : List Loc) : Prop := v = some (.double d0) ∧ Fr n0 L ∧ h = h0
set_option maxRecDepth 65536 in
set_option maxHeartbeats 40000000 in
theorem zto (l : Launch) (Z : State) (a0 : Array Value) (hw : ∀ d ∈ tables_1, d.before a0 Z = true) (ws : List Jvm.Cond) (q0 : Addr) (d0 : UInt64) (h0 : Heap) (n0 : Nat) (Z0 : n0 ≤ h0.size) (hc3 : ¬ ((cmpValue (FP.dcmp d0 (0 : UInt64)) .l) < (0 : Int32))) (hc9 : ¬ ((0 : Int32) < (cmpValue (FP.dcmp d0 (4607182418800017408 : UInt64)) .g))) :
    MetFree l (⟨"com/example/nelira/nelira/ranking/ScorerConstants", "zeroToOne", "(Ljava/lang/String;D)D"⟩ : MethodName) (head1 (Jvm.Cond.code (⟨"com/example/nelira/nelira/ranking/ScorerConstants", "zeroToOne", "(Ljava/lang/String;D)D"⟩ : MethodName) prog_62_method_3_code 3 (some .double) :: ws) ({ frames := 0, cells := 0, slots := 0, locals := 0 } : Room)) (fun a U => a = #[(.ref q0), (.double d0)] ∧ Z.Warmed39 U.vm ∧ U.heap = h0) (fun _ _ _ _ _ => True) (fun _ U o U' => ∃ v L, o = .returned v ∧ Q_zto Z q0 d0 h0 n0 v U'.heap L ∧ FrameEnd U o U' L ({ frames := 0, cells := 0, slots := 0, locals := 0 } : Room).cells ({ frames := 0, cells := 0, slots := 0, locals := 0 } : Room).slots) := by
  refine MetFree.of_bodySF (plainFor_of_name pn_com_example_nelira_nelira_ranking_ScorerConstants) hisR ?_
  intro p e s m args below meth c s₁ Bd hml0 hP hK
  obtain ⟨rfl, hZ, hh⟩ := hP
  have hx := Bd.exec
  have hby := Bd.bytes
  have hml : c.maxLocals = 3 := hml0
  have hown : s.vm.findClass "com/example/nelira/nelira/ranking/ScorerConstants" = some m.cls := findClass_of_methodNamed Bd.named
  have hnm := (name_of_methodNamed Bd.named Bd.method).1
  have X0 : Stand p l e ({ frames := 0, cells := 0, slots := 0, locals := 0 } : Room) s m #[(.ref q0), (.double d0)] below meth c s₁ [] 0 0 := Stand.of_body Bd
  have e0 : s₁.heap = h0 := by rw [← hh, Bd.state]; rfl
  have N0 := Fr.nil n0
  have pre0 : ∀ t, Steps p.tables e below (s₁.setTop (mkF m 0 #[.val (.ref q0), .val (.double d0), .second] [])) t → Steps p.tables e below (s₁.setTop (entryFrame m #[(.ref q0), (.double d0)] 3)) t := fun t k => castTop (ef_6_RD m q0 d0) k
  obtain ⟨fs, hr, hrun, hended, hW, hsame⟩ := X0.leave (v := some (.double d0)) (fun h => by rw [Bd.returns] at h; cases h)
  refine ⟨_, _, pre0 _ ?_, hrun, hended, _, _, rfl, ?_, ⟨_, rfl⟩, hW, hsame.mono (by decide) (by decide)⟩
  · show Steps p.tables e below (s₁.setTop (mkF m 0 #[.val (.ref q0), .val (.double d0), .second] [])) _
    refine XS.dloadN X0.here hx rfl (hb hby d6_0) rfl ?_
    show Steps p.tables e below (s₁.setTop (mkF m 1 #[.val (.ref q0), .val (.double d0), .second] [(.double d0)])) _
    refine XS.dconst0 X0.here hx rfl (hb hby d6_1) (v := (0 : UInt64)) rfl ?_
    show Steps p.tables e below (s₁.setTop (mkF m 2 #[.val (.ref q0), .val (.double d0), .second] [(.double (0 : UInt64)), (.double d0)])) _
    refine XS.dcmpS X0.here hx rfl (hb hby d6_2) rfl (v := (cmpValue (FP.dcmp d0 (0 : UInt64)) .l)) rfl ?_
    show Steps p.tables e below (s₁.setTop (mkF m 3 #[.val (.ref q0), .val (.double d0), .second] [(.int (cmpValue (FP.dcmp d0 (0 : UInt64)) .l))])) _
    refine XS.ifNo X0.here hx rfl (hb hby d6_3) rfl ((if0 _ _).trans (flt hc3).1) ?_
    show Steps p.tables e below (s₁.setTop (mkF m 6 #[.val (.ref q0), .val (.double d0), .second] [])) _
    refine XS.dloadN X0.here hx rfl (hb hby d6_6) rfl ?_
    show Steps p.tables e below (s₁.setTop (mkF m 7 #[.val (.ref q0), .val (.double d0), .second] [(.double d0)])) _
    refine XS.dconst1 X0.here hx rfl (hb hby d6_7) (v := (4607182418800017408 : UInt64)) rfl ?_
    show Steps p.tables e below (s₁.setTop (mkF m 8 #[.val (.ref q0), .val (.double d0), .second] [(.double (4607182418800017408 : UInt64)), (.double d0)])) _
    refine XS.dcmpS X0.here hx rfl (hb hby d6_8) rfl (v := (cmpValue (FP.dcmp d0 (4607182418800017408 : UInt64)) .g)) rfl ?_
    show Steps p.tables e below (s₁.setTop (mkF m 9 #[.val (.ref q0), .val (.double d0), .second] [(.int (cmpValue (FP.dcmp d0 (4607182418800017408 : UInt64)) .g))])) _
    refine XS.ifYes X0.here hx rfl (pc0 := 9) (pc' := 27) rfl (hb hby d6_9) rfl ((if0 _ _).trans (flt hc9).2.2.2) (by decide) (by decide) ?_
    show Steps p.tables e below (s₁.setTop (mkF m 27 #[.val (.ref q0), .val (.double d0), .second] [])) _
    refine XS.dloadN X0.here hx rfl (hb hby d6_27) rfl ?_
    show Steps p.tables e below (s₁.setTop (mkF m 28 #[.val (.ref q0), .val (.double d0), .second] [(.double d0)])) _
    exact retOut X0 hx Bd.returns rfl (Or.inr (Or.inr (Or.inl ⟨rfl, rfl, _, rfl⟩))) (hb hby d6_28) hr
  · show Q_zto Z q0 d0 h0 n0 _ s₁.heap _
    rw [e0]
    exact ⟨rfl, N0, rfl⟩
theorem d8_0 : decode prog_44_method_8_code 0 = .ok (.dload_n 0, 1) := by decide +kernel
theorem d8_1 : decode prog_44_method_8_code 1 = .ok (.dconst 1, 1) := by decide +kernel
theorem d8_2 : decode prog_44_method_8_code 2 = .ok (.dload_n 2, 1) := by decide +kernel
theorem d8_3 : decode prog_44_method_8_code 3 = .ok (.dsub, 1) := by decide +kernel
theorem d8_4 : decode prog_44_method_8_code 4 = .ok (.dload_n 2, 1) := by decide +kernel
theorem d8_5 : decode prog_44_method_8_code 5 = .ok (.iload 4, 2) := by decide +kernel
theorem d8_7 : decode prog_44_method_8_code 7 = .ok (.i2d, 1) := by decide +kernel
theorem d8_8 : decode prog_44_method_8_code 8 = .ok (.dmul, 1) := by decide +kernel
theorem d8_9 : decode prog_44_method_8_code 9 = .ok (.dload 5, 2) := by decide +kernel
theorem d8_11 : decode prog_44_method_8_code 11 = .ok (.ddiv, 1) := by decide +kernel
theorem d8_12 : decode prog_44_method_8_code 12 = .ok (.dadd, 1) := by decide +kernel
theorem d8_13 : decode prog_44_method_8_code 13 = .ok (.dmul, 1) := by decide +kernel
theorem d8_14 : decode prog_44_method_8_code 14 = .ok (.dreturn, 1) := by decide +kernel
theorem pn_com_example_nelira_nelira_ranking_Bm25 : plainName "com/example/nelira/nelira/ranking/Bm25" = true := by first | (simp [plainName, overriddenIn]; done) | decide +kernel
theorem ef_8_DDID (m : MethodId) (x0 : UInt64) (x1 : UInt64) (x2 : Int32) (x3 : UInt64) : entryFrame m #[(.double x0), (.double x1), (.int x2), (.double x3)] 7 = mkF m 0 #[.val (.double x0), .second, .val (.double x1), .second, .val (.int x2), .val (.double x3), .second] [] := by first | (simp [entryFrame, mkF, argsToLocals, Value.category]; done) | rfl
def Q_lno (Z : State) (d0 : UInt64) (d1 : UInt64) (i0 : Int32) (d2 : UInt64) (h0 : Heap) (n0 : Nat) (v : Option Value) (h : Heap) (L : List Loc) : Prop := v = some (.double (FP.dmul d0 (FP.dadd (FP.dsub (4607182418800017408 : UInt64) d1) (FP.ddiv (FP.dmul d1 (FP.i2d i0)) d2)))) ∧ Fr n0 L ∧ h = h0
set_option maxRecDepth 65536 in
set_option maxHeartbeats 40000000 in
theorem lno (l : Launch) (Z : State) (a0 : Array Value) (hw : ∀ d ∈ tables_1, d.before a0 Z = true) (ws : List Jvm.Cond) (d0 : UInt64) (d1 : UInt64) (i0 : Int32) (d2 : UInt64) (h0 : Heap) (n0 : Nat) (Z0 : n0 ≤ h0.size) (nn3 : Jvm.Free.Fl.NoNaN64 (FP.dsub (4607182418800017408 : UInt64) d1)) (nn8 : Jvm.Free.Fl.NoNaN64 (FP.dmul d1 (FP.i2d i0))) (nn11 : Jvm.Free.Fl.NoNaN64 (FP.ddiv (FP.dmul d1 (FP.i2d i0)) d2)) (nn12 : Jvm.Free.Fl.NoNaN64 (FP.dadd (FP.dsub (4607182418800017408 : UInt64) d1) (FP.ddiv (FP.dmul d1 (FP.i2d i0)) d2))) (nn13 : Jvm.Free.Fl.NoNaN64 (FP.dmul d0 (FP.dadd (FP.dsub (4607182418800017408 : UInt64) d1) (FP.ddiv (FP.dmul d1 (FP.i2d i0)) d2)))) :
    MetFree l (⟨"com/example/nelira/nelira/ranking/Bm25", "lengthNorm", "(DDID)D"⟩ : MethodName) (head1 (Jvm.Cond.code (⟨"com/example/nelira/nelira/ranking/Bm25", "lengthNorm", "(DDID)D"⟩ : MethodName) prog_44_method_8_code 7 (some .double) :: ws) ({ frames := 0, cells := 0, slots := 0, locals := 0 } : Room)) (fun a U => a = #[(.double d0), (.double d1), (.int i0), (.double d2)] ∧ Z.Warmed39 U.vm ∧ U.heap = h0) (fun _ _ _ _ _ => True) (fun _ U o U' => ∃ v L, o = .returned v ∧ Q_lno Z d0 d1 i0 d2 h0 n0 v U'.heap L ∧ FrameEnd U o U' L ({ frames := 0, cells := 0, slots := 0, locals := 0 } : Room).cells ({ frames := 0, cells := 0, slots := 0, locals := 0 } : Room).slots) := by
  refine MetFree.of_bodySF (plainFor_of_name pn_com_example_nelira_nelira_ranking_Bm25) hisR ?_
  intro p e s m args below meth c s₁ Bd hml0 hP hK
  obtain ⟨rfl, hZ, hh⟩ := hP
  have hx := Bd.exec
  have hby := Bd.bytes
  have hml : c.maxLocals = 7 := hml0
  have hown : s.vm.findClass "com/example/nelira/nelira/ranking/Bm25" = some m.cls := findClass_of_methodNamed Bd.named
  have hnm := (name_of_methodNamed Bd.named Bd.method).1
  have X0 : Stand p l e ({ frames := 0, cells := 0, slots := 0, locals := 0 } : Room) s m #[(.double d0), (.double d1), (.int i0), (.double d2)] below meth c s₁ [] 0 0 := Stand.of_body Bd
  have e0 : s₁.heap = h0 := by rw [← hh, Bd.state]; rfl
  have N0 := Fr.nil n0
  have pre0 : ∀ t, Steps p.tables e below (s₁.setTop (mkF m 0 #[.val (.double d0), .second, .val (.double d1), .second, .val (.int i0), .val (.double d2), .second] [])) t → Steps p.tables e below (s₁.setTop (entryFrame m #[(.double d0), (.double d1), (.int i0), (.double d2)] 7)) t := fun t k => castTop (ef_8_DDID m d0 d1 i0 d2) k
  obtain ⟨fs, hr, hrun, hended, hW, hsame⟩ := X0.leave (v := some (.double (FP.dmul d0 (FP.dadd (FP.dsub (4607182418800017408 : UInt64) d1) (FP.ddiv (FP.dmul d1 (FP.i2d i0)) d2))))) (fun h => by rw [Bd.returns] at h; cases h)
  refine ⟨_, _, pre0 _ ?_, hrun, hended, _, _, rfl, ?_, ⟨_, rfl⟩, hW, hsame.mono (by decide) (by decide)⟩
  · show Steps p.tables e below (s₁.setTop (mkF m 0 #[.val (.double d0), .second, .val (.double d1), .second, .val (.int i0), .val (.double d2), .second] [])) _
    refine XS.dloadN X0.here hx rfl (hb hby d8_0) rfl ?_
    show Steps p.tables e below (s₁.setTop (mkF m 1 #[.val (.double d0), .second, .val (.double d1), .second, .val (.int i0), .val (.double d2), .second] [(.double d0)])) _
    refine XS.dconst1 X0.here hx rfl (hb hby d8_1) (v := (4607182418800017408 : UInt64)) rfl ?_
    show Steps p.tables e below (s₁.setTop (mkF m 2 #[.val (.double d0), .second, .val (.double d1), .second, .val (.int i0), .val (.double d2), .second] [(.double (4607182418800017408 : UInt64)), (.double d0)])) _
    refine XS.dloadN X0.here hx rfl (hb hby d8_2) rfl ?_
    show Steps p.tables e below (s₁.setTop (mkF m 3 #[.val (.double d0), .second, .val (.double d1), .second, .val (.int i0), .val (.double d2), .second] [(.double d1), (.double (4607182418800017408 : UInt64)), (.double d0)])) _
    refine XS.dsubS X0.here hx rfl (hb hby d8_3) rfl nn3 (v := (FP.dsub (4607182418800017408 : UInt64) d1)) rfl ?_
    show Steps p.tables e below (s₁.setTop (mkF m 4 #[.val (.double d0), .second, .val (.double d1), .second, .val (.int i0), .val (.double d2), .second] [(.double (FP.dsub (4607182418800017408 : UInt64) d1)), (.double d0)])) _
    refine XS.dloadN X0.here hx rfl (hb hby d8_4) rfl ?_
    show Steps p.tables e below (s₁.setTop (mkF m 5 #[.val (.double d0), .second, .val (.double d1), .second, .val (.int i0), .val (.double d2), .second] [(.double d1), (.double (FP.dsub (4607182418800017408 : UInt64) d1)), (.double d0)])) _
    refine XS.iload X0.here hx rfl (hb hby d8_5) rfl ?_
    show Steps p.tables e below (s₁.setTop (mkF m 7 #[.val (.double d0), .second, .val (.double d1), .second, .val (.int i0), .val (.double d2), .second] [(.int i0), (.double d1), (.double (FP.dsub (4607182418800017408 : UInt64) d1)), (.double d0)])) _
    refine XS.i2dS X0.here hx rfl (hb hby d8_7) rfl (v := (FP.i2d i0)) rfl ?_
    show Steps p.tables e below (s₁.setTop (mkF m 8 #[.val (.double d0), .second, .val (.double d1), .second, .val (.int i0), .val (.double d2), .second] [(.double (FP.i2d i0)), (.double d1), (.double (FP.dsub (4607182418800017408 : UInt64) d1)), (.double d0)])) _
    refine XS.dmulS X0.here hx rfl (hb hby d8_8) rfl nn8 (v := (FP.dmul d1 (FP.i2d i0))) rfl ?_
    show Steps p.tables e below (s₁.setTop (mkF m 9 #[.val (.double d0), .second, .val (.double d1), .second, .val (.int i0), .val (.double d2), .second] [(.double (FP.dmul d1 (FP.i2d i0))), (.double (FP.dsub (4607182418800017408 : UInt64) d1)), (.double d0)])) _
    refine XS.dload X0.here hx rfl (hb hby d8_9) rfl ?_
    show Steps p.tables e below (s₁.setTop (mkF m 11 #[.val (.double d0), .second, .val (.double d1), .second, .val (.int i0), .val (.double d2), .second] [(.double d2), (.double (FP.dmul d1 (FP.i2d i0))), (.double (FP.dsub (4607182418800017408 : UInt64) d1)), (.double d0)])) _
    refine XS.ddivS X0.here hx rfl (hb hby d8_11) rfl nn11 (v := (FP.ddiv (FP.dmul d1 (FP.i2d i0)) d2)) rfl ?_
    show Steps p.tables e below (s₁.setTop (mkF m 12 #[.val (.double d0), .second, .val (.double d1), .second, .val (.int i0), .val (.double d2), .second] [(.double (FP.ddiv (FP.dmul d1 (FP.i2d i0)) d2)), (.double (FP.dsub (4607182418800017408 : UInt64) d1)), (.double d0)])) _
    refine XS.daddS X0.here hx rfl (hb hby d8_12) rfl nn12 (v := (FP.dadd (FP.dsub (4607182418800017408 : UInt64) d1) (FP.ddiv (FP.dmul d1 (FP.i2d i0)) d2))) rfl ?_
    show Steps p.tables e below (s₁.setTop (mkF m 13 #[.val (.double d0), .second, .val (.double d1), .second, .val (.int i0), .val (.double d2), .second] [(.double (FP.dadd (FP.dsub (4607182418800017408 : UInt64) d1) (FP.ddiv (FP.dmul d1 (FP.i2d i0)) d2))), (.double d0)])) _
    refine XS.dmulS X0.here hx rfl (hb hby d8_13) rfl nn13 (v := (FP.dmul d0 (FP.dadd (FP.dsub (4607182418800017408 : UInt64) d1) (FP.ddiv (FP.dmul d1 (FP.i2d i0)) d2)))) rfl ?_
    show Steps p.tables e below (s₁.setTop (mkF m 14 #[.val (.double d0), .second, .val (.double d1), .second, .val (.int i0), .val (.double d2), .second] [(.double (FP.dmul d0 (FP.dadd (FP.dsub (4607182418800017408 : UInt64) d1) (FP.ddiv (FP.dmul d1 (FP.i2d i0)) d2))))])) _
    exact retOut X0 hx Bd.returns rfl (Or.inr (Or.inr (Or.inl ⟨rfl, rfl, _, rfl⟩))) (hb hby d8_14) hr
  · show Q_lno Z d0 d1 i0 d2 h0 n0 _ s₁.heap _
    rw [e0]
    exact ⟨rfl, N0, rfl⟩
theorem d1_0 : decode prog_44_method_1_code 0 = .ok (.aload_n 0, 1) := by decide +kernel
theorem d1_1 : decode prog_44_method_1_code 1 = .ok (.invokespecial 1, 3) := by decide +kernel
theorem d1_4 : decode prog_44_method_1_code 4 = .ok (.aload_n 0, 1) := by decide +kernel
theorem d1_5 : decode prog_44_method_1_code 5 = .ok (.ldc 7, 2) := by decide +kernel
theorem own_satoms {Z : State} {a0 : Array Value} (hw : ∀ d ∈ tables_1, d.before a0 Z = true) : ∀ c ∈ Bundle.stringAtoms, c.before a0 Z = true := fun c hc =>
  hw c (by simpa using (List.all_eq_true.mp (by decide +kernel : (Bundle.stringAtoms.all fun c => (tables_1).contains c) = true)) c hc)
theorem d1_7 : decode prog_44_method_1_code 7 = .ok (.dload_n 1, 1) := by decide +kernel
theorem d1_8 : decode prog_44_method_1_code 8 = .ok (.invokestatic 9, 3) := by decide +kernel
theorem pd_2 : parseMethodDescriptor "(Ljava/lang/String;D)D" = some ⟨[(.object "java/lang/String"), .double], some .double⟩ := by decide +kernel
theorem d1_11 : decode prog_44_method_1_code 11 = .ok (.putfield 15, 3) := by decide +kernel
theorem so_Bm25__b__k1 {Z : State} {a0 : Array Value} (hw : ∀ d ∈ tables_1, d.before a0 Z = true) : Jvm.RoadKit.slotOf Z "com/example/nelira/nelira/ranking/Bm25" "_b" "D" ≠ Jvm.RoadKit.slotOf Z "com/example/nelira/nelira/ranking/Bm25" "_k1" "D" := slot_ne (Or.inr (hw _ (List.mem_of_getElem? (i := 44) rfl))) (Or.inr (hw _ (List.mem_of_getElem? (i := 38) rfl))) (by decide) (t := .double) (t' := .double) (by decide) (by decide)
theorem so_Bm25__idf__k1 {Z : State} {a0 : Array Value} (hw : ∀ d ∈ tables_1, d.before a0 Z = true) : Jvm.RoadKit.slotOf Z "com/example/nelira/nelira/ranking/Bm25" "_idf" "Lcom/example/nelira/nelira/ranking/Bm25$Idf;" ≠ Jvm.RoadKit.slotOf Z "com/example/nelira/nelira/ranking/Bm25" "_k1" "D" := slot_ne (Or.inr (hw _ (List.mem_of_getElem? (i := 46) rfl))) (Or.inr (hw _ (List.mem_of_getElem? (i := 38) rfl))) (by decide) (t := (.object "com/example/nelira/nelira/ranking/Bm25$Idf")) (t' := .double) (by decide) (by decide)
theorem d1_14 : decode prog_44_method_1_code 14 = .ok (.aload_n 0, 1) := by decide +kernel
theorem d1_15 : decode prog_44_method_1_code 15 = .ok (.ldc 21, 2) := by decide +kernel
theorem d1_17 : decode prog_44_method_1_code 17 = .ok (.dload_n 3, 1) := by decide +kernel
theorem d1_18 : decode prog_44_method_1_code 18 = .ok (.invokestatic 23, 3) := by decide +kernel
theorem d1_21 : decode prog_44_method_1_code 21 = .ok (.putfield 26, 3) := by decide +kernel
theorem so_Bm25__k1__b {Z : State} {a0 : Array Value} (hw : ∀ d ∈ tables_1, d.before a0 Z = true) : Jvm.RoadKit.slotOf Z "com/example/nelira/nelira/ranking/Bm25" "_k1" "D" ≠ Jvm.RoadKit.slotOf Z "com/example/nelira/nelira/ranking/Bm25" "_b" "D" := slot_ne (Or.inr (hw _ (List.mem_of_getElem? (i := 38) rfl))) (Or.inr (hw _ (List.mem_of_getElem? (i := 44) rfl))) (by decide) (t := .double) (t' := .double) (by decide) (by decide)
theorem so_Bm25__idf__b {Z : State} {a0 : Array Value} (hw : ∀ d ∈ tables_1, d.before a0 Z = true) : Jvm.RoadKit.slotOf Z "com/example/nelira/nelira/ranking/Bm25" "_idf" "Lcom/example/nelira/nelira/ranking/Bm25$Idf;" ≠ Jvm.RoadKit.slotOf Z "com/example/nelira/nelira/ranking/Bm25" "_b" "D" := slot_ne (Or.inr (hw _ (List.mem_of_getElem? (i := 46) rfl))) (Or.inr (hw _ (List.mem_of_getElem? (i := 44) rfl))) (by decide) (t := (.object "com/example/nelira/nelira/ranking/Bm25$Idf")) (t' := .double) (by decide) (by decide)
theorem d1_24 : decode prog_44_method_1_code 24 = .ok (.aload_n 0, 1) := by decide +kernel
theorem d1_25 : decode prog_44_method_1_code 25 = .ok (.aload 5, 2) := by decide +kernel
theorem d1_27 : decode prog_44_method_1_code 27 = .ok (.putfield 29, 3) := by decide +kernel
theorem so_Bm25__k1__idf {Z : State} {a0 : Array Value} (hw : ∀ d ∈ tables_1, d.before a0 Z = true) : Jvm.RoadKit.slotOf Z "com/example/nelira/nelira/ranking/Bm25" "_k1" "D" ≠ Jvm.RoadKit.slotOf Z "com/example/nelira/nelira/ranking/Bm25" "_idf" "Lcom/example/nelira/nelira/ranking/Bm25$Idf;" := slot_ne (Or.inr (hw _ (List.mem_of_getElem? (i := 38) rfl))) (Or.inr (hw _ (List.mem_of_getElem? (i := 46) rfl))) (by decide) (t := .double) (t' := (.object "com/example/nelira/nelira/ranking/Bm25$Idf")) (by decide) (by decide)
theorem so_Bm25__b__idf {Z : State} {a0 : Array Value} (hw : ∀ d ∈ tables_1, d.before a0 Z = true) : Jvm.RoadKit.slotOf Z "com/example/nelira/nelira/ranking/Bm25" "_b" "D" ≠ Jvm.RoadKit.slotOf Z "com/example/nelira/nelira/ranking/Bm25" "_idf" "Lcom/example/nelira/nelira/ranking/Bm25$Idf;" := slot_ne (Or.inr (hw _ (List.mem_of_getElem? (i := 44) rfl))) (Or.inr (hw _ (List.mem_of_getElem? (i := 46) rfl))) (by decide) (t := .double) (t' := (.object "com/example/nelira/nelira/ranking/Bm25$Idf")) (by decide) (by decide)
theorem d1_30 : decode prog_44_method_1_code 30 = .ok (.return_, 1) := by decide +kernel
theorem ef_1_RDDR (m : MethodId) (x0 : Addr) (x1 : UInt64) (x2 : UInt64) (x3 : Addr) : entryFrame m #[(.ref x0), (.double x1), (.double x2), (.ref x3)] 6 = mkF m 0 #[.val (.ref x0), .val (.double x1), .second, .val (.double x2), .second, .val (.ref x3)] [] := by first | (simp [entryFrame, mkF, argsToLocals, Value.category]; done) | rfl
def Q_ini (Z : State) (t0 : Addr) (d0 : UInt64) (d1 : UInt64) (q1 : Addr) (h0 : Heap) (n0 : Nat) (v : Option Value) (h : Heap) (L : List Loc) : Prop := v = none ∧ Fr n0 L ∧ Keep h0 h [t0] ∧ Exa Z h t0 "com/example/nelira/nelira/ranking/Bm25" ∧ Fld Z h t0 "com/example/nelira/nelira/ranking/Bm25" "_k1" "D" (.double d0) ∧ Fld Z h t0 "com/example/nelira/nelira/ranking/Bm25" "_b" "D" (.double d1)
set_option maxRecDepth 65536 in
set_option maxHeartbeats 40000000 in
theorem ini (l : Launch) (Z : State) (a0 : Array Value) (hw : ∀ d ∈ tables_1, d.before a0 Z = true) (ws : List Jvm.Cond) (t0 : Addr) (d0 : UInt64) (d1 : UInt64) (q1 : Addr) (h0 : Heap) (n0 : Nat) (Z0 : n0 ≤ h0.size) (E_t0 : Exa Z h0 t0 "com/example/nelira/nelira/ranking/Bm25") (g_t0 : n0 ≤ t0) (F__k1_t0 : Fld Z h0 t0 "com/example/nelira/nelira/ranking/Bm25" "_k1" "D" (.double (0 : UInt64))) (F__b_t0 : Fld Z h0 t0 "com/example/nelira/nelira/ranking/Bm25" "_b" "D" (.double (0 : UInt64))) (F__idf_t0 : Fld Z h0 t0 "com/example/nelira/nelira/ranking/Bm25" "_idf" "Lcom/example/nelira/nelira/ranking/Bm25$Idf;" .null) (nna1_1_8 : Jvm.Free.Fl.NoNaN64 d0) (hd7_1_8 : (cmpValue (FP.dcmp (d0 &&& 0x7fffffffffffffff) (9218868437227405311 : UInt64)) .g) = (-1 : Int32)) (hc10_8 : ¬ ((cmpValue (FP.dcmp d0 (0 : UInt64)) .g) < (0 : Int32))) (hc3_18 : ¬ ((cmpValue (FP.dcmp d1 (0 : UInt64)) .l) < (0 : Int32))) (hc9_18 : ¬ ((0 : Int32) < (cmpValue (FP.dcmp d1 (4607182418800017408 : UInt64)) .g))) :
    MetFree l (⟨"com/example/nelira/nelira/ranking/Bm25", "<init>", "(DDLcom/example/nelira/nelira/ranking/Bm25$Idf;)V"⟩ : MethodName) (head1 (Jvm.Cond.code (⟨"com/example/nelira/nelira/ranking/Bm25", "<init>", "(DDLcom/example/nelira/nelira/ranking/Bm25$Idf;)V"⟩ : MethodName) prog_44_method_1_code 6 none :: ws) ({ frames := 3, cells := 4, slots := 20, locals := 41 } : Room)) (fun a U => a = #[(.ref t0), (.double d0), (.double d1), (.ref q1)] ∧ Z.Warmed39 U.vm ∧ U.heap = h0) (fun _ _ _ _ _ => True) (fun _ U o U' => ∃ v L, o = .returned v ∧ Q_ini Z t0 d0 d1 q1 h0 n0 v U'.heap L ∧ ReturnedEndW U o U' L ({ frames := 3, cells := 4, slots := 20, locals := 41 } : Room).cells ({ frames := 3, cells := 4, slots := 20, locals := 41 } : Room).slots) := by
  refine MetFree.of_bodySF (plainFor_of_name pn_com_example_nelira_nelira_ranking_Bm25) hisR ?_
  intro p e s m args below meth c s₁ Bd hml0 hP hK
  obtain ⟨rfl, hZ, hh⟩ := hP
  have hx := Bd.exec
  have hby := Bd.bytes
  have hml : c.maxLocals = 6 := hml0
  have hown : s.vm.findClass "com/example/nelira/nelira/ranking/Bm25" = some m.cls := findClass_of_methodNamed Bd.named
  have hnm := (name_of_methodNamed Bd.named Bd.method).1
  have X0 : Stand p l e ({ frames := 3, cells := 4, slots := 20, locals := 41 } : Room) s m #[(.ref t0), (.double d0), (.double d1), (.ref q1)] below meth c s₁ [] 0 0 := Stand.of_body Bd
  have e0 : s₁.heap = h0 := by rw [← hh, Bd.state]; rfl
  have N0 := Fr.nil n0
  have pre0 : ∀ t, Steps p.tables e below (s₁.setTop (mkF m 0 #[.val (.ref t0), .val (.double d0), .second, .val (.double d1), .second, .val (.ref q1)] [])) t → Steps p.tables e below (s₁.setTop (entryFrame m #[(.ref t0), (.double d0), (.double d1), (.ref q1)] 6)) t := fun t k => castTop (ef_1_RDDR m t0 d0 d1 q1) k
  obtain ⟨vm0, k00, X0, hS0, hk0, hZ0, hown0⟩ := own_W0 X0 e0 hZ hown
  obtain ⟨T1, X1, e1, st1⟩ := initO X0 hx hZ0 hown0 (hw _ (List.mem_of_getElem? (i := 13) rfl)) (hw _ (List.mem_of_getElem? (i := 14) rfl)) (hw _ (List.mem_of_getElem? (i := 15) rfl)) e0 (g := (mkF m 1 #[.val (.ref t0), .val (.double d0), .second, .val (.double d1), .second, .val (.ref q1)] [(.ref t0)])) rfl (by rw [hml]; rfl) rfl (hb hby d1_1) (by decide) (W := 0) (by show 2 * 0 + _ ≤ _; exact Nat.le_of_eq rfl) (by decide)
  obtain ⟨a2, T2, h2, kq2, X2, e2, E2, hS2, hkq2, hZ2, hown2, st2⟩ := ldcS X1 hx hZ0 hown0 (hw _ (List.mem_of_getElem? (i := 16) rfl)) (own_satoms hw) e1 hS0 hk0 (g := (mkF m 5 #[.val (.ref t0), .val (.double d0), .second, .val (.double d1), .second, .val (.ref q1)] [(.ref t0)])) rfl (hb hby d1_5) (n := 8) (by decide) (by decide) (by decide) (by decide)
  have f3 := E_t0.ext E2
  have f4 := F__k1_t0.ext E2
  have f5 := F__b_t0.ext E2
  have f6 := F__idf_t0.ext E2
  have K2 : Keep h0 h2 [t0] := (Keep.refl h0 [t0]).ext E2
  have Zs2 := Nat.le_trans Z0 E2.1
  have hk2 := Nat.le_trans hk0 E2.1
  obtain ⟨_, _, ⟨T7, L7, k7, n7⟩, -, X7, ⟨Lc7, hQ7, lq7, yq7, zq7⟩, st7⟩ := Jvm.LawKit.callS X2 hx (y := (⟨"com/example/nelira/nelira/ranking/ScorerConstants", "atLeastZero", "(Ljava/lang/String;D)D"⟩ : MethodName)) hown2 (mvT hZ2 (hw _ (List.mem_of_getElem? (i := 24) rfl))) (mvT hZ2 (hw _ (List.mem_of_getElem? (i := 25) rfl))) (mvT hZ2 (hw _ (List.mem_of_getElem? (i := 26) rfl))) (mvT hZ2 (hw _ (List.mem_of_getElem? (i := 27) rfl))) (by decide) (backOf (W := 1) (alz l Z a0 hw [] a2 d0 h2 n0 Zs2 nna1_1_8 hd7_1_8 hc10_8) hZ2 (hw _ (List.mem_of_getElem? (i := 27) rfl)) (hw _ (List.mem_of_getElem? (i := 26) rfl)) (by decide) (by decide)) (g := (mkF m 8 #[.val (.ref t0), .val (.double d0), .second, .val (.double d1), .second, .val (.ref q1)] [(.double d0), (.ref a2), (.ref t0)])) rfl (by rw [hml]; rfl) (argsL := [(.ref a2), (.double d0)]) (rest := [(.ref t0)]) (lenOf pd_2 rfl) rfl (by show 2 * 0 + _ ≤ _; exact Nat.le_of_eq rfl) (hb hby d1_8) (fun _ _ => ⟨rfl, e2, (by decide : 2 + 0 ≤ _), (by decide : 12 + 0 ≤ _)⟩)
  dsimp only [Pt.U, Pt.locs, Pt.cells, Pt.slots] at X7 lq7 yq7 zq7 st7 hQ7
  rw [lq7, yq7, zq7] at X7
  obtain ⟨rfl, N7q, eh7⟩ := hQ7
  have N7 := Fr.app N0 N7q
  have e7 : T7.heap = h2 := eh7
  obtain ⟨T8, h8, X8, e8, W8, st8⟩ := putF X7 hx hZ2 hown2 (host := "") (Or.inl (hw _ (List.mem_of_getElem? (i := 37) rfl))) Via.refl e7 f4 f3 (Or.inr ⟨(hw _ (List.mem_of_getElem? (i := 38) rfl)), rfl, hnm⟩) (hw _ (List.mem_of_getElem? (i := 8) rfl)) (ty := .double) (by decide) rfl rfl (g := (mkF m 11 #[.val (.ref t0), .val (.double d0), .second, .val (.double d1), .second, .val (.ref q1)] [(.double d0), (.ref t0)])) rfl rfl (hb hby d1_11)
  have f9 := f3.wr W8
  have f10 := f5.other W8 (Or.inr (so_Bm25__b__k1 hw))
  have f11 := f6.other W8 (Or.inr (so_Bm25__idf__k1 hw))
  have K8 : Keep h0 h8 [t0] := K2.wr W8 (Or.inl (List.mem_of_getElem? (i := 0) rfl))
  have Zs8 := Nat.le_trans Zs2 (Keep.of_wr W8).1
  have hk8 := Nat.le_trans hkq2 (Keep.of_wr W8).1
  have N8 := Fr.snoc X8 N7 g_t0
  have f12 : Fld Z h8 t0 "com/example/nelira/nelira/ranking/Bm25" "_k1" "D" (.double d0) := f4.same W8
  obtain ⟨a13, T13, h13, kq13, X13, e13, E13, hS13, hkq13, hZ13, hown13, st13⟩ := ldcS X8 hx hZ2 hown2 (hw _ (List.mem_of_getElem? (i := 39) rfl)) (own_satoms hw) e8 hS2 hk8 (g := (mkF m 15 #[.val (.ref t0), .val (.double d0), .second, .val (.double d1), .second, .val (.ref q1)] [(.ref t0)])) rfl (hb hby d1_15) (n := 4) (by decide) (by decide) (by decide) (by decide)
  have f14 := f9.ext E13
  have f15 := f12.ext E13
  have f16 := f10.ext E13
  have f17 := f11.ext E13
  have K13 : Keep h0 h13 [t0] := K8.ext E13
  have Zs13 := Nat.le_trans Zs8 E13.1
  have hk13 := Nat.le_trans hk8 E13.1
  obtain ⟨_, _, ⟨T18, L18, k18, n18⟩, -, X18, ⟨Lc18, hQ18, lq18, yq18, zq18⟩, st18⟩ := Jvm.LawKit.callS X13 hx (y := (⟨"com/example/nelira/nelira/ranking/ScorerConstants", "zeroToOne", "(Ljava/lang/String;D)D"⟩ : MethodName)) hown13 (mvT hZ13 (hw _ (List.mem_of_getElem? (i := 40) rfl))) (mvT hZ13 (hw _ (List.mem_of_getElem? (i := 41) rfl))) (mvT hZ13 (hw _ (List.mem_of_getElem? (i := 26) rfl))) (mvT hZ13 (hw _ (List.mem_of_getElem? (i := 42) rfl))) (by decide) (backOf (W := 1) (zto l Z a0 hw [] a13 d1 h13 n0 Zs13 hc3_18 hc9_18) hZ13 (hw _ (List.mem_of_getElem? (i := 42) rfl)) (hw _ (List.mem_of_getElem? (i := 26) rfl)) (by decide) (by decide)) (g := (mkF m 18 #[.val (.ref t0), .val (.double d0), .second, .val (.double d1), .second, .val (.ref q1)] [(.double d1), (.ref a13), (.ref t0)])) rfl (by rw [hml]; rfl) (argsL := [(.ref a13), (.double d1)]) (rest := [(.ref t0)]) (lenOf pd_2 rfl) rfl (by show 2 * 0 + _ ≤ _; exact Nat.le_of_eq rfl) (hb hby d1_18) (fun _ _ => ⟨rfl, e13, (by decide : 4 + 0 ≤ _), (by decide : 20 + 0 ≤ _)⟩)
  dsimp only [Pt.U, Pt.locs, Pt.cells, Pt.slots] at X18 lq18 yq18 zq18 st18 hQ18
  rw [lq18, yq18, zq18] at X18
  obtain ⟨rfl, N18q, eh18⟩ := hQ18
  have N18 := Fr.app N8 N18q
  have e18 : T18.heap = h13 := eh18
  obtain ⟨T19, h19, X19, e19, W19, st19⟩ := putF X18 hx hZ13 hown13 (host := "") (Or.inl (hw _ (List.mem_of_getElem? (i := 43) rfl))) Via.refl e18 f16 f14 (Or.inr ⟨(hw _ (List.mem_of_getElem? (i := 44) rfl)), rfl, hnm⟩) (hw _ (List.mem_of_getElem? (i := 8) rfl)) (ty := .double) (by decide) rfl rfl (g := (mkF m 21 #[.val (.ref t0), .val (.double d0), .second, .val (.double d1), .second, .val (.ref q1)] [(.double d1), (.ref t0)])) rfl rfl (hb hby d1_21)
  have f20 := f14.wr W19
  have f21 := f15.other W19 (Or.inr (so_Bm25__k1__b hw))
  have f22 := f17.other W19 (Or.inr (so_Bm25__idf__b hw))
  have K19 : Keep h0 h19 [t0] := K13.wr W19 (Or.inl (List.mem_of_getElem? (i := 0) rfl))
  have Zs19 := Nat.le_trans Zs13 (Keep.of_wr W19).1
  have hk19 := Nat.le_trans hkq13 (Keep.of_wr W19).1
  have N19 := Fr.snoc X19 N18 g_t0
  have f23 : Fld Z h19 t0 "com/example/nelira/nelira/ranking/Bm25" "_b" "D" (.double d1) := f16.same W19
  obtain ⟨T24, h24, X24, e24, W24, st24⟩ := putF X19 hx hZ13 hown13 (host := "") (Or.inl (hw _ (List.mem_of_getElem? (i := 45) rfl))) Via.refl e19 f22 f20 (Or.inr ⟨(hw _ (List.mem_of_getElem? (i := 46) rfl)), rfl, hnm⟩) (hw _ (List.mem_of_getElem? (i := 8) rfl)) (ty := (.object "com/example/nelira/nelira/ranking/Bm25$Idf")) (by decide) rfl rfl (g := (mkF m 27 #[.val (.ref t0), .val (.double d0), .second, .val (.double d1), .second, .val (.ref q1)] [(.ref q1), (.ref t0)])) rfl rfl (hb hby d1_27)
  have f25 := f20.wr W24
  have f26 := f21.other W24 (Or.inr (so_Bm25__k1__idf hw))
  have f27 := f23.other W24 (Or.inr (so_Bm25__b__idf hw))
  have K24 : Keep h0 h24 [t0] := K19.wr W24 (Or.inl (List.mem_of_getElem? (i := 0) rfl))
  have Zs24 := Nat.le_trans Zs19 (Keep.of_wr W24).1
  have hk24 := Nat.le_trans hk19 (Keep.of_wr W24).1
  have N24 := Fr.snoc X24 N19 g_t0
  have f28 : Fld Z h24 t0 "com/example/nelira/nelira/ranking/Bm25" "_idf" "Lcom/example/nelira/nelira/ranking/Bm25$Idf;" (.ref q1) := f22.same W24
  obtain ⟨fs, hr, hrun, hended, hRW⟩ := X24.leaveW hS13 (by rw [e24]; exact hk24) (v := none) (fun _ => rfl)
  refine ⟨_, _, pre0 _ ?_, hrun, hended, _, _, rfl, ?_, ⟨_, rfl⟩, hRW.2.1, hRW.2.2.1, hRW.2.2.2.mono (by decide) (by decide)⟩
  · show Steps p.tables e below (s₁.setTop (mkF m 0 #[.val (.ref t0), .val (.double d0), .second, .val (.double d1), .second, .val (.ref q1)] [])) _
    refine XS.aloadN X0.here hx rfl (hb hby d1_0) rfl rfl ?_
    show Steps p.tables e below (s₁.setTop (mkF m 1 #[.val (.ref t0), .val (.double d0), .second, .val (.double d1), .second, .val (.ref q1)] [(.ref t0)])) _
    refine st1 _ ?_
    show Steps p.tables e below (T1.setTop (mkF m 4 #[.val (.ref t0), .val (.double d0), .second, .val (.double d1), .second, .val (.ref q1)] [])) _
    refine XS.aloadN X1.here hx rfl (hb hby d1_4) rfl rfl ?_
    show Steps p.tables e below (T1.setTop (mkF m 5 #[.val (.ref t0), .val (.double d0), .second, .val (.double d1), .second, .val (.ref q1)] [(.ref t0)])) _
    refine st2 _ ?_
    show Steps p.tables e below (T2.setTop (mkF m 7 #[.val (.ref t0), .val (.double d0), .second, .val (.double d1), .second, .val (.ref q1)] [(.ref a2), (.ref t0)])) _
    refine XS.dloadN X2.here hx rfl (hb hby d1_7) rfl ?_
    show Steps p.tables e below (T2.setTop (mkF m 8 #[.val (.ref t0), .val (.double d0), .second, .val (.double d1), .second, .val (.ref q1)] [(.double d0), (.ref a2), (.ref t0)])) _
    refine st7 _ ?_
    show Steps p.tables e below (T7.setTop (mkF m 11 #[.val (.ref t0), .val (.double d0), .second, .val (.double d1), .second, .val (.ref q1)] [(.double d0), (.ref t0)])) _
    refine st8 _ ?_
    show Steps p.tables e below (T8.setTop (mkF m 14 #[.val (.ref t0), .val (.double d0), .second, .val (.double d1), .second, .val (.ref q1)] [])) _
    refine XS.aloadN X8.here hx rfl (hb hby d1_14) rfl rfl ?_
    show Steps p.tables e below (T8.setTop (mkF m 15 #[.val (.ref t0), .val (.double d0), .second, .val (.double d1), .second, .val (.ref q1)] [(.ref t0)])) _
    refine st13 _ ?_
    show Steps p.tables e below (T13.setTop (mkF m 17 #[.val (.ref t0), .val (.double d0), .second, .val (.double d1), .second, .val (.ref q1)] [(.ref a13), (.ref t0)])) _
    refine XS.dloadN X13.here hx rfl (hb hby d1_17) rfl ?_
    show Steps p.tables e below (T13.setTop (mkF m 18 #[.val (.ref t0), .val (.double d0), .second, .val (.double d1), .second, .val (.ref q1)] [(.double d1), (.ref a13), (.ref t0)])) _
    refine st18 _ ?_
    show Steps p.tables e below (T18.setTop (mkF m 21 #[.val (.ref t0), .val (.double d0), .second, .val (.double d1), .second, .val (.ref q1)] [(.double d1), (.ref t0)])) _
    refine st19 _ ?_
    show Steps p.tables e below (T19.setTop (mkF m 24 #[.val (.ref t0), .val (.double d0), .second, .val (.double d1), .second, .val (.ref q1)] [])) _
    refine XS.aloadN X19.here hx rfl (hb hby d1_24) rfl rfl ?_
    show Steps p.tables e below (T19.setTop (mkF m 25 #[.val (.ref t0), .val (.double d0), .second, .val (.double d1), .second, .val (.ref q1)] [(.ref t0)])) _
    refine XS.aload X19.here hx rfl (hb hby d1_25) rfl rfl ?_
    show Steps p.tables e below (T19.setTop (mkF m 27 #[.val (.ref t0), .val (.double d0), .second, .val (.double d1), .second, .val (.ref q1)] [(.ref q1), (.ref t0)])) _
    refine st24 _ ?_
    show Steps p.tables e below (T24.setTop (mkF m 30 #[.val (.ref t0), .val (.double d0), .second, .val (.double d1), .second, .val (.ref q1)] [])) _
    exact X24.returnOut hx Bd.returns (hb hby d1_30) hr
  · show Q_ini Z t0 d0 d1 q1 h0 n0 _ T24.heap _
    rw [e24]
    exact ⟨rfl, N24, K24, f25, f26, f27⟩
theorem d7_0 : decode prog_44_method_6_code 0 = .ok (.aload_n 0, 1) := by decide +kernel
theorem d7_1 : decode prog_44_method_6_code 1 = .ok (.getfield 15, 3) := by decide +kernel
theorem d7_4 : decode prog_44_method_6_code 4 = .ok (.aload_n 0, 1) := by decide +kernel
theorem d7_5 : decode prog_44_method_6_code 5 = .ok (.getfield 26, 3) := by decide +kernel
theorem d7_8 : decode prog_44_method_6_code 8 = .ok (.iload_n 1, 1) := by decide +kernel
theorem d7_9 : decode prog_44_method_6_code 9 = .ok (.dload_n 2, 1) := by decide +kernel
theorem d7_10 : decode prog_44_method_6_code 10 = .ok (.invokestatic 99, 3) := by decide +kernel
theorem pd_3 : parseMethodDescriptor "(DDID)D" = some ⟨[.double, .double, .int, .double], some .double⟩ := by decide +kernel
theorem d7_13 : decode prog_44_method_6_code 13 = .ok (.dreturn, 1) := by decide +kernel
theorem ef_7_RID (m : MethodId) (x0 : Addr) (x1 : Int32) (x2 : UInt64) : entryFrame m #[(.ref x0), (.int x1), (.double x2)] 4 = mkF m 0 #[.val (.ref x0), .val (.int x1), .val (.double x2), .second] [] := by first | (simp [entryFrame, mkF, argsToLocals, Value.category]; done) | rfl
def Q_nrm (Z : State) (t0 : Addr) (i0 : Int32) (d2 : UInt64) (d0 : UInt64) (d1 : UInt64) (h0 : Heap) (n0 : Nat) (v : Option Value) (h : Heap) (L : List Loc) : Prop := v = some (.double (FP.dmul d0 (FP.dadd (FP.dsub (4607182418800017408 : UInt64) d1) (FP.ddiv (FP.dmul d1 (FP.i2d i0)) d2)))) ∧ Fr n0 L ∧ h = h0
set_option maxRecDepth 65536 in
set_option maxHeartbeats 40000000 in
theorem nrm (l : Launch) (Z : State) (a0 : Array Value) (hw : ∀ d ∈ tables_1, d.before a0 Z = true) (ws : List Jvm.Cond) (t0 : Addr) (i0 : Int32) (d2 : UInt64) (d0 : UInt64) (d1 : UInt64) (h0 : Heap) (n0 : Nat) (Z0 : n0 ≤ h0.size) (F__k1_t0 : Fld Z h0 t0 "com/example/nelira/nelira/ranking/Bm25" "_k1" "D" (.double d0)) (F__b_t0 : Fld Z h0 t0 "com/example/nelira/nelira/ranking/Bm25" "_b" "D" (.double d1)) (nn3_10 : Jvm.Free.Fl.NoNaN64 (FP.dsub (4607182418800017408 : UInt64) d1)) (nn8_10 : Jvm.Free.Fl.NoNaN64 (FP.dmul d1 (FP.i2d i0))) (nn11_10 : Jvm.Free.Fl.NoNaN64 (FP.ddiv (FP.dmul d1 (FP.i2d i0)) d2)) (nn12_10 : Jvm.Free.Fl.NoNaN64 (FP.dadd (FP.dsub (4607182418800017408 : UInt64) d1) (FP.ddiv (FP.dmul d1 (FP.i2d i0)) d2))) (nn13_10 : Jvm.Free.Fl.NoNaN64 (FP.dmul d0 (FP.dadd (FP.dsub (4607182418800017408 : UInt64) d1) (FP.ddiv (FP.dmul d1 (FP.i2d i0)) d2)))) :
    MetFree l (⟨"com/example/nelira/nelira/ranking/Bm25", "norm", "(ID)D"⟩ : MethodName) (head1 (Jvm.Cond.code (⟨"com/example/nelira/nelira/ranking/Bm25", "norm", "(ID)D"⟩ : MethodName) prog_44_method_6_code 4 (some .double) :: ws) ({ frames := 1, cells := 0, slots := 0, locals := 18 } : Room)) (fun a U => a = #[(.ref t0), (.int i0), (.double d2)] ∧ Z.Warmed39 U.vm ∧ U.heap = h0) (fun _ _ _ _ _ => True) (fun _ U o U' => ∃ v L, o = .returned v ∧ Q_nrm Z t0 i0 d2 d0 d1 h0 n0 v U'.heap L ∧ FrameEnd U o U' L ({ frames := 1, cells := 0, slots := 0, locals := 18 } : Room).cells ({ frames := 1, cells := 0, slots := 0, locals := 18 } : Room).slots) := by
  refine MetFree.of_bodySF (plainFor_of_name pn_com_example_nelira_nelira_ranking_Bm25) hisR ?_
  intro p e s m args below meth c s₁ Bd hml0 hP hK
  obtain ⟨rfl, hZ, hh⟩ := hP
  have hx := Bd.exec
  have hby := Bd.bytes
  have hml : c.maxLocals = 4 := hml0
  have hown : s.vm.findClass "com/example/nelira/nelira/ranking/Bm25" = some m.cls := findClass_of_methodNamed Bd.named
  have hnm := (name_of_methodNamed Bd.named Bd.method).1
  have X0 : Stand p l e ({ frames := 1, cells := 0, slots := 0, locals := 18 } : Room) s m #[(.ref t0), (.int i0), (.double d2)] below meth c s₁ [] 0 0 := Stand.of_body Bd
  have e0 : s₁.heap = h0 := by rw [← hh, Bd.state]; rfl
  have N0 := Fr.nil n0
  have pre0 : ∀ t, Steps p.tables e below (s₁.setTop (mkF m 0 #[.val (.ref t0), .val (.int i0), .val (.double d2), .second] [])) t → Steps p.tables e below (s₁.setTop (entryFrame m #[(.ref t0), (.int i0), (.double d2)] 4)) t := fun t k => castTop (ef_7_RID m t0 i0 d2) k
  obtain ⟨T1, X1, e1, st1⟩ := getF X0 hx hZ hown (host := "") (Or.inl (hw _ (List.mem_of_getElem? (i := 37) rfl))) Via.refl e0 F__k1_t0 (g := (mkF m 1 #[.val (.ref t0), .val (.int i0), .val (.double d2), .second] [(.ref t0)])) rfl rfl (hb hby d7_1)
  obtain ⟨T2, X2, e2, st2⟩ := getF X1 hx hZ hown (host := "") (Or.inl (hw _ (List.mem_of_getElem? (i := 43) rfl))) Via.refl e1 F__b_t0 (g := (mkF m 5 #[.val (.ref t0), .val (.int i0), .val (.double d2), .second] [(.ref t0), (.double d0)])) rfl rfl (hb hby d7_5)
  obtain ⟨_, _, ⟨T3, L3, k3, n3⟩, -, X3, ⟨Lc3, hQ3, lq3, yq3, zq3⟩, st3⟩ := Jvm.LawKit.callS X2 hx (y := (⟨"com/example/nelira/nelira/ranking/Bm25", "lengthNorm", "(DDID)D"⟩ : MethodName)) hown (mvT hZ (hw _ (List.mem_of_getElem? (i := 52) rfl))) (mvT hZ (hw _ (List.mem_of_getElem? (i := 53) rfl))) (mvT hZ (hw _ (List.mem_of_getElem? (i := 9) rfl))) (mvT hZ (hw _ (List.mem_of_getElem? (i := 54) rfl))) (by decide) (backOf (W := 0) (lno l Z a0 hw [] d0 d1 i0 d2 h0 n0 Z0 nn3_10 nn8_10 nn11_10 nn12_10 nn13_10) hZ (hw _ (List.mem_of_getElem? (i := 54) rfl)) (hw _ (List.mem_of_getElem? (i := 9) rfl)) (by decide) (by decide)) (g := (mkF m 10 #[.val (.ref t0), .val (.int i0), .val (.double d2), .second] [(.double d2), (.int i0), (.double d1), (.double d0)])) rfl (by rw [hml]; rfl) (argsL := [(.double d0), (.double d1), (.int i0), (.double d2)]) (rest := []) (lenOf pd_3 rfl) rfl (by show 2 * 0 + _ ≤ _; exact Nat.le_of_eq rfl) (hb hby d7_10) (fun _ _ => ⟨rfl, e2, (by decide : 0 + 0 ≤ _), (by decide : 0 + 0 ≤ _)⟩)
  dsimp only [Pt.U, Pt.locs, Pt.cells, Pt.slots] at X3 lq3 yq3 zq3 st3 hQ3
  rw [lq3, yq3, zq3] at X3
  obtain ⟨rfl, N3q, eh3⟩ := hQ3
  have N3 := Fr.app N0 N3q
  have e3 : T3.heap = h0 := eh3
  obtain ⟨fs, hr, hrun, hended, hW, hsame⟩ := X3.leave (v := some (.double (FP.dmul d0 (FP.dadd (FP.dsub (4607182418800017408 : UInt64) d1) (FP.ddiv (FP.dmul d1 (FP.i2d i0)) d2))))) (fun h => by rw [Bd.returns] at h; cases h)
  refine ⟨_, _, pre0 _ ?_, hrun, hended, _, _, rfl, ?_, ⟨_, rfl⟩, hW, hsame.mono (by decide) (by decide)⟩
  · show Steps p.tables e below (s₁.setTop (mkF m 0 #[.val (.ref t0), .val (.int i0), .val (.double d2), .second] [])) _
    refine XS.aloadN X0.here hx rfl (hb hby d7_0) rfl rfl ?_
    show Steps p.tables e below (s₁.setTop (mkF m 1 #[.val (.ref t0), .val (.int i0), .val (.double d2), .second] [(.ref t0)])) _
    refine st1 _ ?_
    show Steps p.tables e below (T1.setTop (mkF m 4 #[.val (.ref t0), .val (.int i0), .val (.double d2), .second] [(.double d0)])) _
    refine XS.aloadN X1.here hx rfl (hb hby d7_4) rfl rfl ?_
    show Steps p.tables e below (T1.setTop (mkF m 5 #[.val (.ref t0), .val (.int i0), .val (.double d2), .second] [(.ref t0), (.double d0)])) _
    refine st2 _ ?_
    show Steps p.tables e below (T2.setTop (mkF m 8 #[.val (.ref t0), .val (.int i0), .val (.double d2), .second] [(.double d1), (.double d0)])) _
    refine XS.iloadN X2.here hx rfl (hb hby d7_8) rfl ?_
    show Steps p.tables e below (T2.setTop (mkF m 9 #[.val (.ref t0), .val (.int i0), .val (.double d2), .second] [(.int i0), (.double d1), (.double d0)])) _
    refine XS.dloadN X2.here hx rfl (hb hby d7_9) rfl ?_
    show Steps p.tables e below (T2.setTop (mkF m 10 #[.val (.ref t0), .val (.int i0), .val (.double d2), .second] [(.double d2), (.int i0), (.double d1), (.double d0)])) _
    refine st3 _ ?_
    show Steps p.tables e below (T3.setTop (mkF m 13 #[.val (.ref t0), .val (.int i0), .val (.double d2), .second] [(.double (FP.dmul d0 (FP.dadd (FP.dsub (4607182418800017408 : UInt64) d1) (FP.ddiv (FP.dmul d1 (FP.i2d i0)) d2))))])) _
    exact retOut X3 hx Bd.returns rfl (Or.inr (Or.inr (Or.inl ⟨rfl, rfl, _, rfl⟩))) (hb hby d7_13) hr
  · show Q_nrm Z t0 i0 d2 d0 d1 h0 n0 _ T3.heap _
    rw [e3]
    exact ⟨rfl, N3, rfl⟩
theorem pd_4 : parseMethodDescriptor "(DDLcom/example/nelira/nelira/ranking/Bm25$Idf;)V" = some ⟨[.double, .double, (.object "com/example/nelira/nelira/ranking/Bm25$Idf")], none⟩ := by decide +kernel
theorem pd_5 : parseMethodDescriptor "(ID)D" = some ⟨[.int, .double], some .double⟩ := by decide +kernel
theorem pn_com_example_nelira_nelira_ranking_Bm25NormPinLaw : plainName "com/example/nelira/nelira/ranking/Bm25NormPinLaw" = true := by first | (simp [plainName, overriddenIn]; done) | decide +kernel
theorem ef_0_IIIII (m : MethodId) (x0 : Int32) (x1 : Int32) (x2 : Int32) (x3 : Int32) (x4 : Int32) : entryFrame m #[(.int x0), (.int x1), (.int x2), (.int x3), (.int x4)] maxLocals = mkF m 0 #[.val (.int x0), .val (.int x1), .val (.int x2), .val (.int x3), .val (.int x4), .unset, .unset, .unset, .unset, .unset, .unset, .unset, .unset, .unset, .unset, .unset, .unset, .unset, .unset, .unset, .unset, .unset, .unset, .unset] [] := by first | (simp [entryFrame, mkF, argsToLocals, Value.category, maxLocals]; done) | rfl
def Q0 (n0 : Nat) (v : Option Value) (h : Heap) (L : List Loc) : Prop := v = some (.int (1 : Int32)) ∧ Fr n0 L
set_option maxRecDepth 65536 in
set_option maxHeartbeats 40000000 in
theorem rm00 (l : Launch) (Z : State) (a0 : Array Value) (hw : ∀ d ∈ tables_1, d.before a0 Z = true) (ws : List Jvm.Cond) (p0 : Int32) (p1 : Int32) (p2 : Int32) (p3 : Int32) (p4 : Int32) (m0 : Addr) (m1 : Addr) (ki : Int32) (j : Int32) (ee : Int32) (aa : UInt64) (bb : UInt64) (sc : Int64) (av : UInt64) (nu : Int64) (de : Int64) (h0 : Heap) (n0 : Nat) (Z0 : n0 ≤ h0.size) (S_SMOOTHED : Sta Z h0 "com/example/nelira/nelira/ranking/Bm25$Idf" "SMOOTHED" "Lcom/example/nelira/nelira/ranking/Bm25$Idf;" (.ref m0)) (S_OKAPI : Sta Z h0 "com/example/nelira/nelira/ranking/Bm25$Idf" "OKAPI" "Lcom/example/nelira/nelira/ranking/Bm25$Idf;" (.ref m1)) (hv3 : (p1 &&& (31 : Int32)) = ki) (hv12 : ((p2 &&& (2147483647 : Int32)) % (9 : Int32)) = j) (hv18 : (p3 &&& (15 : Int32)) = ee) (nn27 : Jvm.Free.Fl.NoNaN64 (FP.ddiv (FP.i2d ki) (4616189618054758400 : UInt64))) (hq27 : (FP.ddiv (FP.i2d ki) (4616189618054758400 : UInt64)) = aa) (nn36 : Jvm.Free.Fl.NoNaN64 (FP.ddiv (FP.i2d j) (4620693217682128896 : UInt64))) (hq36 : (FP.ddiv (FP.i2d j) (4620693217682128896 : UInt64)) = bb) (hv42 : ((1 : Int64) <<< (ee &&& 0x3f).toInt64) = sc) (nn51 : Jvm.Free.Fl.NoNaN64 (FP.ddiv (FP.l2d sc) (4643211215818981376 : UInt64))) (hq51 : (FP.ddiv (FP.l2d sc) (4643211215818981376 : UInt64)) = av) (hc58 : (p4 &&& (1 : Int32)) = (0 : Int32)) (nna1_1_8_82 : Jvm.Free.Fl.NoNaN64 aa) (hd7_1_8_82 : (cmpValue (FP.dcmp (aa &&& 0x7fffffffffffffff) (9218868437227405311 : UInt64)) .g) = (-1 : Int32)) (hc10_8_82 : ¬ ((cmpValue (FP.dcmp aa (0 : UInt64)) .g) < (0 : Int32))) (hc3_18_82 : ¬ ((cmpValue (FP.dcmp bb (0 : UInt64)) .l) < (0 : Int32))) (hc9_18_82 : ¬ ((0 : Int32) < (cmpValue (FP.dcmp bb (4607182418800017408 : UInt64)) .g))) (nn3_10_92 : Jvm.Free.Fl.NoNaN64 (FP.dsub (4607182418800017408 : UInt64) bb)) (nn8_10_92 : Jvm.Free.Fl.NoNaN64 (FP.dmul bb (FP.i2d p0))) (nn11_10_92 : Jvm.Free.Fl.NoNaN64 (FP.ddiv (FP.dmul bb (FP.i2d p0)) av)) (nn12_10_92 : Jvm.Free.Fl.NoNaN64 (FP.dadd (FP.dsub (4607182418800017408 : UInt64) bb) (FP.ddiv (FP.dmul bb (FP.i2d p0)) av))) (nn13_10_92 : Jvm.Free.Fl.NoNaN64 (FP.dmul aa (FP.dadd (FP.dsub (4607182418800017408 : UInt64) bb) (FP.ddiv (FP.dmul bb (FP.i2d p0)) av)))) (hv121 : ((ki.toInt64) * ((((8 : Int64) - (j.toInt64)) * sc) + (((256 : Int64) * (j.toInt64)) * (p0.toInt64)))) = nu) (hv132 : ((32 : Int64) * sc) = de) (nn134 : Jvm.Free.Fl.NoNaN64 (FP.ddiv (FP.l2d nu) (FP.l2d de))) (hd141 : (cmpValue (FP.dcmp (FP.dmul aa (FP.dadd (FP.dsub (4607182418800017408 : UInt64) bb) (FP.ddiv (FP.dmul bb (FP.i2d p0)) av))) (FP.ddiv (FP.l2d nu) (FP.l2d de))) .l) = (0 : Int32)) :
    MetFree l x (head1 (Jvm.Cond.code x code maxLocals ret :: ws) room_1) (fun a U => a = #[(.int p0), (.int p1), (.int p2), (.int p3), (.int p4)] ∧ Z.Warmed39 U.vm ∧ U.heap = h0) (fun _ _ _ _ _ => True) (fun _ U o U' => ∃ v L, o = .returned v ∧ Q0 n0 v U'.heap L ∧ ReturnedEndW U o U' L room_1.cells room_1.slots) := by
  refine MetFree.of_bodySF (plainFor_of_name pn_com_example_nelira_nelira_ranking_Bm25NormPinLaw) hisR ?_
  intro p e s m args below meth c s₁ Bd hml0 hP hK
  obtain ⟨rfl, hZ, hh⟩ := hP
  have hx := Bd.exec
  have hby := Bd.bytes
  have hml : c.maxLocals = 24 := hml0
  have hown : s.vm.findClass "com/example/nelira/nelira/ranking/Bm25NormPinLaw" = some m.cls := findClass_of_methodNamed Bd.named
  have hnm := (name_of_methodNamed Bd.named Bd.method).1
  have X0 : Stand p l e room_1 s m #[(.int p0), (.int p1), (.int p2), (.int p3), (.int p4)] below meth c s₁ [] 0 0 := Stand.of_body Bd
  have e0 : s₁.heap = h0 := by rw [← hh, Bd.state]; rfl
  have N0 := Fr.nil n0
  have pre0 : ∀ t, Steps p.tables e below (s₁.setTop (mkF m 0 #[.val (.int p0), .val (.int p1), .val (.int p2), .val (.int p3), .val (.int p4), .unset, .unset, .unset, .unset, .unset, .unset, .unset, .unset, .unset, .unset, .unset, .unset, .unset, .unset, .unset, .unset, .unset, .unset, .unset] [])) t → Steps p.tables e below (s₁.setTop (entryFrame m #[(.int p0), (.int p1), (.int p2), (.int p3), (.int p4)] maxLocals)) t := fun t k => castTop (ef_0_IIIII m p0 p1 p2 p3 p4) k
  obtain ⟨vm0, k00, X0, hS0, hk0, hZ0, hown0⟩ := own_W0 X0 e0 hZ hown
  obtain ⟨T1, X1, e1, st1⟩ := getS2 X0 hx hZ0 hown0 (host := "") (Or.inl (hw _ (List.mem_of_getElem? (i := 4) rfl))) Via.refl e0 S_SMOOTHED (g := (mkF m 67 #[.val (.int p0), .val (.int p1), .val (.int p2), .val (.int p3), .val (.int p4), .val (.int ki), .val (.int j), .val (.int ee), .val (.double aa), .second, .val (.double bb), .second, .val (.long sc), .second, .val (.double av), .second, .unset, .unset, .unset, .unset, .unset, .unset, .unset, .unset] [])) rfl (hb hby at_67)
  obtain ⟨T2, h2, X2, e2, E2, A2, D2, -, st2⟩ := newO X1 hx hZ0 hown0 (hw _ (List.mem_of_getElem? (i := 7) rfl)) (hw _ (List.mem_of_getElem? (i := 8) rfl)) (hw _ (List.mem_of_getElem? (i := 9) rfl)) e1 (g := (mkF m 72 #[.val (.int p0), .val (.int p1), .val (.int p2), .val (.int p3), .val (.int p4), .val (.int ki), .val (.int j), .val (.int ee), .val (.double aa), .second, .val (.double bb), .second, .val (.long sc), .second, .val (.double av), .second, .val (.ref m0), .unset, .unset, .unset, .unset, .unset, .unset, .unset] [])) rfl (hb hby at_72) (by decide) (by decide)
  obtain ⟨b2, g2⟩ : ∃ z, z = h0.size := ⟨_, rfl⟩
  rw [← g2] at A2 D2 st2
  have g_b2 : n0 ≤ b2 := Nat.le_trans Z0 (Nat.le_of_eq g2.symm)
  have sz_b2 : h0.size ≤ b2 := Nat.le_trans (Keep.refl h0 []).1 (Nat.le_of_eq g2.symm)
  have K2 : Keep h0 h2 [] := (Keep.refl h0 []).ext E2
  have Zs2 := Nat.le_trans Z0 E2.1
  have hk2 := Nat.le_trans hk0 E2.1
  have F2__k1 : Fld Z h2 b2 "com/example/nelira/nelira/ranking/Bm25" "_k1" "D" (.double (0 : UInt64)) := D2 (Or.inr (hw _ (List.mem_of_getElem? (i := 38) rfl))) (ty := .double) (by decide)
  have F2__b : Fld Z h2 b2 "com/example/nelira/nelira/ranking/Bm25" "_b" "D" (.double (0 : UInt64)) := D2 (Or.inr (hw _ (List.mem_of_getElem? (i := 44) rfl))) (ty := .double) (by decide)
  have F2__idf : Fld Z h2 b2 "com/example/nelira/nelira/ranking/Bm25" "_idf" "Lcom/example/nelira/nelira/ranking/Bm25$Idf;" .null := D2 (Or.inr (hw _ (List.mem_of_getElem? (i := 46) rfl))) (ty := (.object "com/example/nelira/nelira/ranking/Bm25$Idf")) (by decide)
  obtain ⟨_, _, ⟨T3, L3, k3, n3⟩, -, X3, hs3, gr3, ⟨Lc3, hQ3, lq3, yq3, zq3⟩, st3⟩ := X2.specialBackS hx (y := (⟨"com/example/nelira/nelira/ranking/Bm25", "<init>", "(DDLcom/example/nelira/nelira/ranking/Bm25$Idf;)V"⟩ : MethodName)) rfl hown0 (mvT hZ0 (hw _ (List.mem_of_getElem? (i := 10) rfl))) (mvT hZ0 (hw _ (List.mem_of_getElem? (i := 11) rfl))) (mvT hZ0 (hw _ (List.mem_of_getElem? (i := 12) rfl))) (by decide) (backOfS (W := 1) (ini l Z a0 hw [] b2 aa bb m0 h2 n0 Zs2 A2 g_b2 F2__k1 F2__b F2__idf nna1_1_8_82 hd7_1_8_82 hc10_8_82 hc3_18_82 hc9_18_82) hZ0 (hw _ (List.mem_of_getElem? (i := 12) rfl)) (hw _ (List.mem_of_getElem? (i := 9) rfl)) (by decide) (by decide)) (g := (mkF m 82 #[.val (.int p0), .val (.int p1), .val (.int p2), .val (.int p3), .val (.int p4), .val (.int ki), .val (.int j), .val (.int ee), .val (.double aa), .second, .val (.double bb), .second, .val (.long sc), .second, .val (.double av), .second, .val (.ref m0), .unset, .unset, .unset, .unset, .unset, .unset, .unset] [(.ref m0), (.double bb), (.double aa), (.ref b2), (.ref b2)])) rfl (by rw [hml]; rfl) (Steps.refl _) (a := b2) (argsL := [(.double aa), (.double bb), (.ref m0)]) (rest := [(.ref b2)]) (lenOf pd_4 rfl) rfl (by show 2 * 0 + _ ≤ _; exact Nat.le_of_eq rfl) (hb hby at_82) (fun _ _ => ⟨rfl, e2, (by decide : 1 + 4 ≤ _), (by decide : 3 + 20 ≤ _)⟩)
  dsimp only [Pt.U, Pt.locs, Pt.cells, Pt.slots] at X3 lq3 yq3 zq3 st3 hQ3 hs3 gr3
  rw [lq3, yq3, zq3] at X3
  obtain ⟨X3, hS3, hZ3, hown3⟩ := own_fold X3 hS0 hs3 (Nat.le_trans (by rw [e2]; exact hk2) gr3) hZ0 hown0
  obtain ⟨rfl, N3q, K3q, f4, f5, f6⟩ := hQ3
  have N3 := Fr.app N0 N3q
  have f7 := A2.keep K3q
  have K3 : Keep h0 T3.heap [] := K2.trans K3q (own_allS (Or.inr sz_b2) own_all0)
  have Zs3 := Nat.le_trans Zs2 K3q.1
  have hk3 := Nat.le_trans hk2 K3q.1
  have hkq3 : T3.heap.size ≤ T3.heap.size := Nat.le_refl _
  obtain ⟨cq8, kq8, q8a, q8b, q8c⟩ := isOf hZ3 rfl f4
  obtain ⟨_, _, ⟨T8, L8, k8, n8⟩, -, X8, ⟨Lc8, hQ8, lq8, yq8, zq8⟩, st8⟩ := X3.virtualBack hx (y := (⟨"com/example/nelira/nelira/ranking/Bm25", "norm", "(ID)D"⟩ : MethodName)) (z := (⟨"com/example/nelira/nelira/ranking/Bm25", "norm", "(ID)D"⟩ : MethodName)) hown3 (mvT hZ3 (hw _ (List.mem_of_getElem? (i := 47) rfl))) (mvT hZ3 (hw _ (List.mem_of_getElem? (i := 48) rfl))) (notFace_of_selects (args := #[]) (mvT hZ3 (hw _ (List.mem_of_getElem? (i := 50) rfl)))) (mvT hZ3 (hw _ (List.mem_of_getElem? (i := 50) rfl))) (mvT hZ3 (hw _ (List.mem_of_getElem? (i := 49) rfl))) (by decide) (backOf (W := 0) (nrm l Z a0 hw [] b2 p0 av aa bb T3.heap n0 Zs3 f5 f6 nn3_10_92 nn8_10_92 nn11_10_92 nn12_10_92 nn13_10_92) hZ3 (hw _ (List.mem_of_getElem? (i := 51) rfl)) (hw _ (List.mem_of_getElem? (i := 9) rfl)) (by decide) (by decide)) q8a q8c (g := (mkF m 92 #[.val (.int p0), .val (.int p1), .val (.int p2), .val (.int p3), .val (.int p4), .val (.int ki), .val (.int j), .val (.int ee), .val (.double aa), .second, .val (.double bb), .second, .val (.long sc), .second, .val (.double av), .second, .val (.ref m0), .val (.ref b2), .unset, .unset, .unset, .unset, .unset, .unset] [(.double av), (.int p0), (.ref b2)])) rfl (by rw [hml]; rfl) (Steps.refl _) (argsL := [(.int p0), (.double av)]) (rest := []) (lenOf pd_5 rfl) rfl (by show 2 * 0 + _ ≤ _; exact Nat.le_of_eq rfl) (hb hby at_92) (fun _ _ => ⟨rfl, rfl, (by decide : 5 + 0 ≤ _), (by decide : 23 + 0 ≤ _)⟩)
  dsimp only [Pt.U, Pt.locs, Pt.cells, Pt.slots] at X8 lq8 yq8 zq8 st8 hQ8
  rw [lq8, yq8, zq8] at X8
  obtain ⟨rfl, N8q, eh8⟩ := hQ8
  have N8 := Fr.app N3 N8q
  have e8 : T8.heap = T3.heap := eh8
  obtain ⟨fs, hr, hrun, hended, hRW⟩ := X8.leaveW hS3 (by rw [e8]; exact hkq3) (v := some (.int (1 : Int32))) (fun h => by rw [Bd.returns] at h; cases h)
  refine ⟨_, _, pre0 _ ?_, hrun, hended, _, _, rfl, ?_, ⟨_, rfl⟩, hRW.2.1, hRW.2.2.1, hRW.2.2.2.mono (by decide) (by decide)⟩
  · show Steps p.tables e below (s₁.setTop (mkF m 0 #[.val (.int p0), .val (.int p1), .val (.int p2), .val (.int p3), .val (.int p4), .unset, .unset, .unset, .unset, .unset, .unset, .unset, .unset, .unset, .unset, .unset, .unset, .unset, .unset, .unset, .unset, .unset, .unset, .unset] [])) _
    refine XS.iloadN X0.here hx rfl (hb hby at_0) rfl ?_
    show Steps p.tables e below (s₁.setTop (mkF m 1 #[.val (.int p0), .val (.int p1), .val (.int p2), .val (.int p3), .val (.int p4), .unset, .unset, .unset, .unset, .unset, .unset, .unset, .unset, .unset, .unset, .unset, .unset, .unset, .unset, .unset, .unset, .unset, .unset, .unset] [(.int p1)])) _
    refine XS.bipush X0.here hx rfl (hb hby at_1) ?_
    show Steps p.tables e below (s₁.setTop (mkF m 3 #[.val (.int p0), .val (.int p1), .val (.int p2), .val (.int p3), .val (.int p4), .unset, .unset, .unset, .unset, .unset, .unset, .unset, .unset, .unset, .unset, .unset, .unset, .unset, .unset, .unset, .unset, .unset, .unset, .unset] [(.int (31 : Int32)), (.int p1)])) _
    refine XS.iand X0.here hx rfl (hb hby at_3) rfl ?_
    show Steps p.tables e below (s₁.setTop (mkF m 4 #[.val (.int p0), .val (.int p1), .val (.int p2), .val (.int p3), .val (.int p4), .unset, .unset, .unset, .unset, .unset, .unset, .unset, .unset, .unset, .unset, .unset, .unset, .unset, .unset, .unset, .unset, .unset, .unset, .unset] [(.int (p1 &&& (31 : Int32)))])) _
    rw [hv3]
    show Steps p.tables e below (s₁.setTop (mkF m 4 #[.val (.int p0), .val (.int p1), .val (.int p2), .val (.int p3), .val (.int p4), .unset, .unset, .unset, .unset, .unset, .unset, .unset, .unset, .unset, .unset, .unset, .unset, .unset, .unset, .unset, .unset, .unset, .unset, .unset] [(.int ki)])) _
    refine XS.istore X0.here hx rfl (hb hby at_4) rfl (l' := #[.val (.int p0), .val (.int p1), .val (.int p2), .val (.int p3), .val (.int p4), .val (.int ki), .unset, .unset, .unset, .unset, .unset, .unset, .unset, .unset, .unset, .unset, .unset, .unset, .unset, .unset, .unset, .unset, .unset, .unset]) rfl ?_
    show Steps p.tables e below (s₁.setTop (mkF m 6 #[.val (.int p0), .val (.int p1), .val (.int p2), .val (.int p3), .val (.int p4), .val (.int ki), .unset, .unset, .unset, .unset, .unset, .unset, .unset, .unset, .unset, .unset, .unset, .unset, .unset, .unset, .unset, .unset, .unset, .unset] [])) _
    refine XS.iloadN X0.here hx rfl (hb hby at_6) rfl ?_
    show Steps p.tables e below (s₁.setTop (mkF m 7 #[.val (.int p0), .val (.int p1), .val (.int p2), .val (.int p3), .val (.int p4), .val (.int ki), .unset, .unset, .unset, .unset, .unset, .unset, .unset, .unset, .unset, .unset, .unset, .unset, .unset, .unset, .unset, .unset, .unset, .unset] [(.int p2)])) _
    refine X0.ldcInt hx hown0 (mvT hZ0 (hw _ (List.mem_of_getElem? (i := 0) rfl))) (g := (mkF m 7 #[.val (.int p0), .val (.int p1), .val (.int p2), .val (.int p3), .val (.int p4), .val (.int ki), .unset, .unset, .unset, .unset, .unset, .unset, .unset, .unset, .unset, .unset, .unset, .unset, .unset, .unset, .unset, .unset, .unset, .unset] [(.int p2)])) rfl (hb hby at_7) _ ?_
    show Steps p.tables e below (s₁.setTop (mkF m 9 #[.val (.int p0), .val (.int p1), .val (.int p2), .val (.int p3), .val (.int p4), .val (.int ki), .unset, .unset, .unset, .unset, .unset, .unset, .unset, .unset, .unset, .unset, .unset, .unset, .unset, .unset, .unset, .unset, .unset, .unset] [(.int (2147483647 : Int32)), (.int p2)])) _
    refine XS.iand X0.here hx rfl (hb hby at_9) rfl ?_
    show Steps p.tables e below (s₁.setTop (mkF m 10 #[.val (.int p0), .val (.int p1), .val (.int p2), .val (.int p3), .val (.int p4), .val (.int ki), .unset, .unset, .unset, .unset, .unset, .unset, .unset, .unset, .unset, .unset, .unset, .unset, .unset, .unset, .unset, .unset, .unset, .unset] [(.int (p2 &&& (2147483647 : Int32)))])) _
    refine XS.bipush X0.here hx rfl (hb hby at_10) ?_
    show Steps p.tables e below (s₁.setTop (mkF m 12 #[.val (.int p0), .val (.int p1), .val (.int p2), .val (.int p3), .val (.int p4), .val (.int ki), .unset, .unset, .unset, .unset, .unset, .unset, .unset, .unset, .unset, .unset, .unset, .unset, .unset, .unset, .unset, .unset, .unset, .unset] [(.int (9 : Int32)), (.int (p2 &&& (2147483647 : Int32)))])) _
    refine iremM (g := (mkF m 12 #[.val (.int p0), .val (.int p1), .val (.int p2), .val (.int p3), .val (.int p4), .val (.int ki), .unset, .unset, .unset, .unset, .unset, .unset, .unset, .unset, .unset, .unset, .unset, .unset, .unset, .unset, .unset, .unset, .unset, .unset] [(.int (9 : Int32)), (.int (p2 &&& (2147483647 : Int32)))])) X0 hx rfl (hb hby at_12) rfl (by decide) ?_
    show Steps p.tables e below (s₁.setTop (mkF m 13 #[.val (.int p0), .val (.int p1), .val (.int p2), .val (.int p3), .val (.int p4), .val (.int ki), .unset, .unset, .unset, .unset, .unset, .unset, .unset, .unset, .unset, .unset, .unset, .unset, .unset, .unset, .unset, .unset, .unset, .unset] [(.int ((p2 &&& (2147483647 : Int32)) % (9 : Int32)))])) _
    rw [hv12]
    show Steps p.tables e below (s₁.setTop (mkF m 13 #[.val (.int p0), .val (.int p1), .val (.int p2), .val (.int p3), .val (.int p4), .val (.int ki), .unset, .unset, .unset, .unset, .unset, .unset, .unset, .unset, .unset, .unset, .unset, .unset, .unset, .unset, .unset, .unset, .unset, .unset] [(.int j)])) _
    refine XS.istore X0.here hx rfl (hb hby at_13) rfl (l' := #[.val (.int p0), .val (.int p1), .val (.int p2), .val (.int p3), .val (.int p4), .val (.int ki), .val (.int j), .unset, .unset, .unset, .unset, .unset, .unset, .unset, .unset, .unset, .unset, .unset, .unset, .unset, .unset, .unset, .unset, .unset]) rfl ?_
    show Steps p.tables e below (s₁.setTop (mkF m 15 #[.val (.int p0), .val (.int p1), .val (.int p2), .val (.int p3), .val (.int p4), .val (.int ki), .val (.int j), .unset, .unset, .unset, .unset, .unset, .unset, .unset, .unset, .unset, .unset, .unset, .unset, .unset, .unset, .unset, .unset, .unset] [])) _
    refine XS.iloadN X0.here hx rfl (hb hby at_15) rfl ?_
    show Steps p.tables e below (s₁.setTop (mkF m 16 #[.val (.int p0), .val (.int p1), .val (.int p2), .val (.int p3), .val (.int p4), .val (.int ki), .val (.int j), .unset, .unset, .unset, .unset, .unset, .unset, .unset, .unset, .unset, .unset, .unset, .unset, .unset, .unset, .unset, .unset, .unset] [(.int p3)])) _
    refine XS.bipush X0.here hx rfl (hb hby at_16) ?_
    show Steps p.tables e below (s₁.setTop (mkF m 18 #[.val (.int p0), .val (.int p1), .val (.int p2), .val (.int p3), .val (.int p4), .val (.int ki), .val (.int j), .unset, .unset, .unset, .unset, .unset, .unset, .unset, .unset, .unset, .unset, .unset, .unset, .unset, .unset, .unset, .unset, .unset] [(.int (15 : Int32)), (.int p3)])) _
    refine XS.iand X0.here hx rfl (hb hby at_18) rfl ?_
    show Steps p.tables e below (s₁.setTop (mkF m 19 #[.val (.int p0), .val (.int p1), .val (.int p2), .val (.int p3), .val (.int p4), .val (.int ki), .val (.int j), .unset, .unset, .unset, .unset, .unset, .unset, .unset, .unset, .unset, .unset, .unset, .unset, .unset, .unset, .unset, .unset, .unset] [(.int (p3 &&& (15 : Int32)))])) _
    rw [hv18]
    show Steps p.tables e below (s₁.setTop (mkF m 19 #[.val (.int p0), .val (.int p1), .val (.int p2), .val (.int p3), .val (.int p4), .val (.int ki), .val (.int j), .unset, .unset, .unset, .unset, .unset, .unset, .unset, .unset, .unset, .unset, .unset, .unset, .unset, .unset, .unset, .unset, .unset] [(.int ee)])) _
    refine XS.istore X0.here hx rfl (hb hby at_19) rfl (l' := #[.val (.int p0), .val (.int p1), .val (.int p2), .val (.int p3), .val (.int p4), .val (.int ki), .val (.int j), .val (.int ee), .unset, .unset, .unset, .unset, .unset, .unset, .unset, .unset, .unset, .unset, .unset, .unset, .unset, .unset, .unset, .unset]) rfl ?_
    show Steps p.tables e below (s₁.setTop (mkF m 21 #[.val (.int p0), .val (.int p1), .val (.int p2), .val (.int p3), .val (.int p4), .val (.int ki), .val (.int j), .val (.int ee), .unset, .unset, .unset, .unset, .unset, .unset, .unset, .unset, .unset, .unset, .unset, .unset, .unset, .unset, .unset, .unset] [])) _
    refine XS.iload X0.here hx rfl (hb hby at_21) rfl ?_
    show Steps p.tables e below (s₁.setTop (mkF m 23 #[.val (.int p0), .val (.int p1), .val (.int p2), .val (.int p3), .val (.int p4), .val (.int ki), .val (.int j), .val (.int ee), .unset, .unset, .unset, .unset, .unset, .unset, .unset, .unset, .unset, .unset, .unset, .unset, .unset, .unset, .unset, .unset] [(.int ki)])) _
    refine XS.i2dS X0.here hx rfl (hb hby at_23) rfl (v := (FP.i2d ki)) rfl ?_
    show Steps p.tables e below (s₁.setTop (mkF m 24 #[.val (.int p0), .val (.int p1), .val (.int p2), .val (.int p3), .val (.int p4), .val (.int ki), .val (.int j), .val (.int ee), .unset, .unset, .unset, .unset, .unset, .unset, .unset, .unset, .unset, .unset, .unset, .unset, .unset, .unset, .unset, .unset] [(.double (FP.i2d ki))])) _
    refine X0.ldc2DoubleC hx hown0 (mvT hZ0 (hw _ (List.mem_of_getElem? (i := 1) rfl))) (g := (mkF m 24 #[.val (.int p0), .val (.int p1), .val (.int p2), .val (.int p3), .val (.int p4), .val (.int ki), .val (.int j), .val (.int ee), .unset, .unset, .unset, .unset, .unset, .unset, .unset, .unset, .unset, .unset, .unset, .unset, .unset, .unset, .unset, .unset] [(.double (FP.i2d ki))])) rfl (hb hby at_24) _ ?_
    show Steps p.tables e below (s₁.setTop (mkF m 27 #[.val (.int p0), .val (.int p1), .val (.int p2), .val (.int p3), .val (.int p4), .val (.int ki), .val (.int j), .val (.int ee), .unset, .unset, .unset, .unset, .unset, .unset, .unset, .unset, .unset, .unset, .unset, .unset, .unset, .unset, .unset, .unset] [(.double (4616189618054758400 : UInt64)), (.double (FP.i2d ki))])) _
    refine XS.ddivS X0.here hx rfl (hb hby at_27) rfl nn27 (v := aa) hq27 ?_
    show Steps p.tables e below (s₁.setTop (mkF m 28 #[.val (.int p0), .val (.int p1), .val (.int p2), .val (.int p3), .val (.int p4), .val (.int ki), .val (.int j), .val (.int ee), .unset, .unset, .unset, .unset, .unset, .unset, .unset, .unset, .unset, .unset, .unset, .unset, .unset, .unset, .unset, .unset] [(.double aa)])) _
    refine XS.dstore X0.here hx rfl (hb hby at_28) rfl (l' := #[.val (.int p0), .val (.int p1), .val (.int p2), .val (.int p3), .val (.int p4), .val (.int ki), .val (.int j), .val (.int ee), .val (.double aa), .second, .unset, .unset, .unset, .unset, .unset, .unset, .unset, .unset, .unset, .unset, .unset, .unset, .unset, .unset]) rfl ?_
    show Steps p.tables e below (s₁.setTop (mkF m 30 #[.val (.int p0), .val (.int p1), .val (.int p2), .val (.int p3), .val (.int p4), .val (.int ki), .val (.int j), .val (.int ee), .val (.double aa), .second, .unset, .unset, .unset, .unset, .unset, .unset, .unset, .unset, .unset, .unset, .unset, .unset, .unset, .unset] [])) _
    refine XS.iload X0.here hx rfl (hb hby at_30) rfl ?_
    show Steps p.tables e below (s₁.setTop (mkF m 32 #[.val (.int p0), .val (.int p1), .val (.int p2), .val (.int p3), .val (.int p4), .val (.int ki), .val (.int j), .val (.int ee), .val (.double aa), .second, .unset, .unset, .unset, .unset, .unset, .unset, .unset, .unset, .unset, .unset, .unset, .unset, .unset, .unset] [(.int j)])) _
    refine XS.i2dS X0.here hx rfl (hb hby at_32) rfl (v := (FP.i2d j)) rfl ?_
    show Steps p.tables e below (s₁.setTop (mkF m 33 #[.val (.int p0), .val (.int p1), .val (.int p2), .val (.int p3), .val (.int p4), .val (.int ki), .val (.int j), .val (.int ee), .val (.double aa), .second, .unset, .unset, .unset, .unset, .unset, .unset, .unset, .unset, .unset, .unset, .unset, .unset, .unset, .unset] [(.double (FP.i2d j))])) _
    refine X0.ldc2DoubleC hx hown0 (mvT hZ0 (hw _ (List.mem_of_getElem? (i := 2) rfl))) (g := (mkF m 33 #[.val (.int p0), .val (.int p1), .val (.int p2), .val (.int p3), .val (.int p4), .val (.int ki), .val (.int j), .val (.int ee), .val (.double aa), .second, .unset, .unset, .unset, .unset, .unset, .unset, .unset, .unset, .unset, .unset, .unset, .unset, .unset, .unset] [(.double (FP.i2d j))])) rfl (hb hby at_33) _ ?_
    show Steps p.tables e below (s₁.setTop (mkF m 36 #[.val (.int p0), .val (.int p1), .val (.int p2), .val (.int p3), .val (.int p4), .val (.int ki), .val (.int j), .val (.int ee), .val (.double aa), .second, .unset, .unset, .unset, .unset, .unset, .unset, .unset, .unset, .unset, .unset, .unset, .unset, .unset, .unset] [(.double (4620693217682128896 : UInt64)), (.double (FP.i2d j))])) _
    refine XS.ddivS X0.here hx rfl (hb hby at_36) rfl nn36 (v := bb) hq36 ?_
    show Steps p.tables e below (s₁.setTop (mkF m 37 #[.val (.int p0), .val (.int p1), .val (.int p2), .val (.int p3), .val (.int p4), .val (.int ki), .val (.int j), .val (.int ee), .val (.double aa), .second, .unset, .unset, .unset, .unset, .unset, .unset, .unset, .unset, .unset, .unset, .unset, .unset, .unset, .unset] [(.double bb)])) _
    refine XS.dstore X0.here hx rfl (hb hby at_37) rfl (l' := #[.val (.int p0), .val (.int p1), .val (.int p2), .val (.int p3), .val (.int p4), .val (.int ki), .val (.int j), .val (.int ee), .val (.double aa), .second, .val (.double bb), .second, .unset, .unset, .unset, .unset, .unset, .unset, .unset, .unset, .unset, .unset, .unset, .unset]) rfl ?_
    show Steps p.tables e below (s₁.setTop (mkF m 39 #[.val (.int p0), .val (.int p1), .val (.int p2), .val (.int p3), .val (.int p4), .val (.int ki), .val (.int j), .val (.int ee), .val (.double aa), .second, .val (.double bb), .second, .unset, .unset, .unset, .unset, .unset, .unset, .unset, .unset, .unset, .unset, .unset, .unset] [])) _
    refine XS.lconst X0.here hx rfl (hb hby at_39) ?_
    show Steps p.tables e below (s₁.setTop (mkF m 40 #[.val (.int p0), .val (.int p1), .val (.int p2), .val (.int p3), .val (.int p4), .val (.int ki), .val (.int j), .val (.int ee), .val (.double aa), .second, .val (.double bb), .second, .unset, .unset, .unset, .unset, .unset, .unset, .unset, .unset, .unset, .unset, .unset, .unset] [(.long (1 : Int64))])) _
    refine XS.iload X0.here hx rfl (hb hby at_40) rfl ?_
    show Steps p.tables e below (s₁.setTop (mkF m 42 #[.val (.int p0), .val (.int p1), .val (.int p2), .val (.int p3), .val (.int p4), .val (.int ki), .val (.int j), .val (.int ee), .val (.double aa), .second, .val (.double bb), .second, .unset, .unset, .unset, .unset, .unset, .unset, .unset, .unset, .unset, .unset, .unset, .unset] [(.int ee), (.long (1 : Int64))])) _
    refine XS.lshl X0.here hx rfl (hb hby at_42) rfl ?_
    show Steps p.tables e below (s₁.setTop (mkF m 43 #[.val (.int p0), .val (.int p1), .val (.int p2), .val (.int p3), .val (.int p4), .val (.int ki), .val (.int j), .val (.int ee), .val (.double aa), .second, .val (.double bb), .second, .unset, .unset, .unset, .unset, .unset, .unset, .unset, .unset, .unset, .unset, .unset, .unset] [(.long ((1 : Int64) <<< (ee &&& 0x3f).toInt64))])) _
    rw [hv42]
    show Steps p.tables e below (s₁.setTop (mkF m 43 #[.val (.int p0), .val (.int p1), .val (.int p2), .val (.int p3), .val (.int p4), .val (.int ki), .val (.int j), .val (.int ee), .val (.double aa), .second, .val (.double bb), .second, .unset, .unset, .unset, .unset, .unset, .unset, .unset, .unset, .unset, .unset, .unset, .unset] [(.long sc)])) _
    refine XS.lstore X0.here hx rfl (hb hby at_43) rfl (l' := #[.val (.int p0), .val (.int p1), .val (.int p2), .val (.int p3), .val (.int p4), .val (.int ki), .val (.int j), .val (.int ee), .val (.double aa), .second, .val (.double bb), .second, .val (.long sc), .second, .unset, .unset, .unset, .unset, .unset, .unset, .unset, .unset, .unset, .unset]) rfl ?_
    show Steps p.tables e below (s₁.setTop (mkF m 45 #[.val (.int p0), .val (.int p1), .val (.int p2), .val (.int p3), .val (.int p4), .val (.int ki), .val (.int j), .val (.int ee), .val (.double aa), .second, .val (.double bb), .second, .val (.long sc), .second, .unset, .unset, .unset, .unset, .unset, .unset, .unset, .unset, .unset, .unset] [])) _
    refine XS.lload X0.here hx rfl (hb hby at_45) rfl ?_
    show Steps p.tables e below (s₁.setTop (mkF m 47 #[.val (.int p0), .val (.int p1), .val (.int p2), .val (.int p3), .val (.int p4), .val (.int ki), .val (.int j), .val (.int ee), .val (.double aa), .second, .val (.double bb), .second, .val (.long sc), .second, .unset, .unset, .unset, .unset, .unset, .unset, .unset, .unset, .unset, .unset] [(.long sc)])) _
    refine XS.l2dS X0.here hx rfl (hb hby at_47) rfl (v := (FP.l2d sc)) rfl ?_
    show Steps p.tables e below (s₁.setTop (mkF m 48 #[.val (.int p0), .val (.int p1), .val (.int p2), .val (.int p3), .val (.int p4), .val (.int ki), .val (.int j), .val (.int ee), .val (.double aa), .second, .val (.double bb), .second, .val (.long sc), .second, .unset, .unset, .unset, .unset, .unset, .unset, .unset, .unset, .unset, .unset] [(.double (FP.l2d sc))])) _
    refine X0.ldc2DoubleC hx hown0 (mvT hZ0 (hw _ (List.mem_of_getElem? (i := 3) rfl))) (g := (mkF m 48 #[.val (.int p0), .val (.int p1), .val (.int p2), .val (.int p3), .val (.int p4), .val (.int ki), .val (.int j), .val (.int ee), .val (.double aa), .second, .val (.double bb), .second, .val (.long sc), .second, .unset, .unset, .unset, .unset, .unset, .unset, .unset, .unset, .unset, .unset] [(.double (FP.l2d sc))])) rfl (hb hby at_48) _ ?_
    show Steps p.tables e below (s₁.setTop (mkF m 51 #[.val (.int p0), .val (.int p1), .val (.int p2), .val (.int p3), .val (.int p4), .val (.int ki), .val (.int j), .val (.int ee), .val (.double aa), .second, .val (.double bb), .second, .val (.long sc), .second, .unset, .unset, .unset, .unset, .unset, .unset, .unset, .unset, .unset, .unset] [(.double (4643211215818981376 : UInt64)), (.double (FP.l2d sc))])) _
    refine XS.ddivS X0.here hx rfl (hb hby at_51) rfl nn51 (v := av) hq51 ?_
    show Steps p.tables e below (s₁.setTop (mkF m 52 #[.val (.int p0), .val (.int p1), .val (.int p2), .val (.int p3), .val (.int p4), .val (.int ki), .val (.int j), .val (.int ee), .val (.double aa), .second, .val (.double bb), .second, .val (.long sc), .second, .unset, .unset, .unset, .unset, .unset, .unset, .unset, .unset, .unset, .unset] [(.double av)])) _
    refine XS.dstore X0.here hx rfl (hb hby at_52) rfl (l' := #[.val (.int p0), .val (.int p1), .val (.int p2), .val (.int p3), .val (.int p4), .val (.int ki), .val (.int j), .val (.int ee), .val (.double aa), .second, .val (.double bb), .second, .val (.long sc), .second, .val (.double av), .second, .unset, .unset, .unset, .unset, .unset, .unset, .unset, .unset]) rfl ?_
    show Steps p.tables e below (s₁.setTop (mkF m 54 #[.val (.int p0), .val (.int p1), .val (.int p2), .val (.int p3), .val (.int p4), .val (.int ki), .val (.int j), .val (.int ee), .val (.double aa), .second, .val (.double bb), .second, .val (.long sc), .second, .val (.double av), .second, .unset, .unset, .unset, .unset, .unset, .unset, .unset, .unset] [])) _
    refine XS.iload X0.here hx rfl (hb hby at_54) rfl ?_
    show Steps p.tables e below (s₁.setTop (mkF m 56 #[.val (.int p0), .val (.int p1), .val (.int p2), .val (.int p3), .val (.int p4), .val (.int ki), .val (.int j), .val (.int ee), .val (.double aa), .second, .val (.double bb), .second, .val (.long sc), .second, .val (.double av), .second, .unset, .unset, .unset, .unset, .unset, .unset, .unset, .unset] [(.int p4)])) _
    refine XS.iconst X0.here hx rfl (hb hby at_56) ?_
    show Steps p.tables e below (s₁.setTop (mkF m 57 #[.val (.int p0), .val (.int p1), .val (.int p2), .val (.int p3), .val (.int p4), .val (.int ki), .val (.int j), .val (.int ee), .val (.double aa), .second, .val (.double bb), .second, .val (.long sc), .second, .val (.double av), .second, .unset, .unset, .unset, .unset, .unset, .unset, .unset, .unset] [(.int (1 : Int32)), (.int p4)])) _
    refine XS.iand X0.here hx rfl (hb hby at_57) rfl ?_
    show Steps p.tables e below (s₁.setTop (mkF m 58 #[.val (.int p0), .val (.int p1), .val (.int p2), .val (.int p3), .val (.int p4), .val (.int ki), .val (.int j), .val (.int ee), .val (.double aa), .second, .val (.double bb), .second, .val (.long sc), .second, .val (.double av), .second, .unset, .unset, .unset, .unset, .unset, .unset, .unset, .unset] [(.int (p4 &&& (1 : Int32)))])) _
    refine XS.ifYes X0.here hx rfl (pc0 := 58) (pc' := 67) rfl (hb hby at_58) rfl ((if0 _ _).trans (teq hc58).1) (by decide) (by decide) ?_
    show Steps p.tables e below (s₁.setTop (mkF m 67 #[.val (.int p0), .val (.int p1), .val (.int p2), .val (.int p3), .val (.int p4), .val (.int ki), .val (.int j), .val (.int ee), .val (.double aa), .second, .val (.double bb), .second, .val (.long sc), .second, .val (.double av), .second, .unset, .unset, .unset, .unset, .unset, .unset, .unset, .unset] [])) _
    refine st1 _ ?_
    show Steps p.tables e below (T1.setTop (mkF m 70 #[.val (.int p0), .val (.int p1), .val (.int p2), .val (.int p3), .val (.int p4), .val (.int ki), .val (.int j), .val (.int ee), .val (.double aa), .second, .val (.double bb), .second, .val (.long sc), .second, .val (.double av), .second, .unset, .unset, .unset, .unset, .unset, .unset, .unset, .unset] [(.ref m0)])) _
    refine XS.astore X1.here hx rfl (hb hby at_70) rfl rfl (l' := #[.val (.int p0), .val (.int p1), .val (.int p2), .val (.int p3), .val (.int p4), .val (.int ki), .val (.int j), .val (.int ee), .val (.double aa), .second, .val (.double bb), .second, .val (.long sc), .second, .val (.double av), .second, .val (.ref m0), .unset, .unset, .unset, .unset, .unset, .unset, .unset]) rfl ?_
    show Steps p.tables e below (T1.setTop (mkF m 72 #[.val (.int p0), .val (.int p1), .val (.int p2), .val (.int p3), .val (.int p4), .val (.int ki), .val (.int j), .val (.int ee), .val (.double aa), .second, .val (.double bb), .second, .val (.long sc), .second, .val (.double av), .second, .val (.ref m0), .unset, .unset, .unset, .unset, .unset, .unset, .unset] [])) _
    refine st2 _ ?_
    show Steps p.tables e below (T2.setTop (mkF m 75 #[.val (.int p0), .val (.int p1), .val (.int p2), .val (.int p3), .val (.int p4), .val (.int ki), .val (.int j), .val (.int ee), .val (.double aa), .second, .val (.double bb), .second, .val (.long sc), .second, .val (.double av), .second, .val (.ref m0), .unset, .unset, .unset, .unset, .unset, .unset, .unset] [(.ref b2)])) _
    refine XS.dup X2.here hx rfl (hb hby at_75) rfl rfl ?_
    show Steps p.tables e below (T2.setTop (mkF m 76 #[.val (.int p0), .val (.int p1), .val (.int p2), .val (.int p3), .val (.int p4), .val (.int ki), .val (.int j), .val (.int ee), .val (.double aa), .second, .val (.double bb), .second, .val (.long sc), .second, .val (.double av), .second, .val (.ref m0), .unset, .unset, .unset, .unset, .unset, .unset, .unset] [(.ref b2), (.ref b2)])) _
    refine XS.dload X2.here hx rfl (hb hby at_76) rfl ?_
    show Steps p.tables e below (T2.setTop (mkF m 78 #[.val (.int p0), .val (.int p1), .val (.int p2), .val (.int p3), .val (.int p4), .val (.int ki), .val (.int j), .val (.int ee), .val (.double aa), .second, .val (.double bb), .second, .val (.long sc), .second, .val (.double av), .second, .val (.ref m0), .unset, .unset, .unset, .unset, .unset, .unset, .unset] [(.double aa), (.ref b2), (.ref b2)])) _
    refine XS.dload X2.here hx rfl (hb hby at_78) rfl ?_
    show Steps p.tables e below (T2.setTop (mkF m 80 #[.val (.int p0), .val (.int p1), .val (.int p2), .val (.int p3), .val (.int p4), .val (.int ki), .val (.int j), .val (.int ee), .val (.double aa), .second, .val (.double bb), .second, .val (.long sc), .second, .val (.double av), .second, .val (.ref m0), .unset, .unset, .unset, .unset, .unset, .unset, .unset] [(.double bb), (.double aa), (.ref b2), (.ref b2)])) _
    refine XS.aload X2.here hx rfl (hb hby at_80) rfl rfl ?_
    show Steps p.tables e below (T2.setTop (mkF m 82 #[.val (.int p0), .val (.int p1), .val (.int p2), .val (.int p3), .val (.int p4), .val (.int ki), .val (.int j), .val (.int ee), .val (.double aa), .second, .val (.double bb), .second, .val (.long sc), .second, .val (.double av), .second, .val (.ref m0), .unset, .unset, .unset, .unset, .unset, .unset, .unset] [(.ref m0), (.double bb), (.double aa), (.ref b2), (.ref b2)])) _
    refine st3.trans ?_
    show Steps p.tables e below (T3.setTop (mkF m 85 #[.val (.int p0), .val (.int p1), .val (.int p2), .val (.int p3), .val (.int p4), .val (.int ki), .val (.int j), .val (.int ee), .val (.double aa), .second, .val (.double bb), .second, .val (.long sc), .second, .val (.double av), .second, .val (.ref m0), .unset, .unset, .unset, .unset, .unset, .unset, .unset] [(.ref b2)])) _
    refine XS.astore X3.here hx rfl (hb hby at_85) rfl rfl (l' := #[.val (.int p0), .val (.int p1), .val (.int p2), .val (.int p3), .val (.int p4), .val (.int ki), .val (.int j), .val (.int ee), .val (.double aa), .second, .val (.double bb), .second, .val (.long sc), .second, .val (.double av), .second, .val (.ref m0), .val (.ref b2), .unset, .unset, .unset, .unset, .unset, .unset]) rfl ?_
    show Steps p.tables e below (T3.setTop (mkF m 87 #[.val (.int p0), .val (.int p1), .val (.int p2), .val (.int p3), .val (.int p4), .val (.int ki), .val (.int j), .val (.int ee), .val (.double aa), .second, .val (.double bb), .second, .val (.long sc), .second, .val (.double av), .second, .val (.ref m0), .val (.ref b2), .unset, .unset, .unset, .unset, .unset, .unset] [])) _
    refine XS.aload X3.here hx rfl (hb hby at_87) rfl rfl ?_
    show Steps p.tables e below (T3.setTop (mkF m 89 #[.val (.int p0), .val (.int p1), .val (.int p2), .val (.int p3), .val (.int p4), .val (.int ki), .val (.int j), .val (.int ee), .val (.double aa), .second, .val (.double bb), .second, .val (.long sc), .second, .val (.double av), .second, .val (.ref m0), .val (.ref b2), .unset, .unset, .unset, .unset, .unset, .unset] [(.ref b2)])) _
    refine XS.iloadN X3.here hx rfl (hb hby at_89) rfl ?_
    show Steps p.tables e below (T3.setTop (mkF m 90 #[.val (.int p0), .val (.int p1), .val (.int p2), .val (.int p3), .val (.int p4), .val (.int ki), .val (.int j), .val (.int ee), .val (.double aa), .second, .val (.double bb), .second, .val (.long sc), .second, .val (.double av), .second, .val (.ref m0), .val (.ref b2), .unset, .unset, .unset, .unset, .unset, .unset] [(.int p0), (.ref b2)])) _
    refine XS.dload X3.here hx rfl (hb hby at_90) rfl ?_
    show Steps p.tables e below (T3.setTop (mkF m 92 #[.val (.int p0), .val (.int p1), .val (.int p2), .val (.int p3), .val (.int p4), .val (.int ki), .val (.int j), .val (.int ee), .val (.double aa), .second, .val (.double bb), .second, .val (.long sc), .second, .val (.double av), .second, .val (.ref m0), .val (.ref b2), .unset, .unset, .unset, .unset, .unset, .unset] [(.double av), (.int p0), (.ref b2)])) _
    refine st8.trans ?_
    show Steps p.tables e below (T8.setTop (mkF m 95 #[.val (.int p0), .val (.int p1), .val (.int p2), .val (.int p3), .val (.int p4), .val (.int ki), .val (.int j), .val (.int ee), .val (.double aa), .second, .val (.double bb), .second, .val (.long sc), .second, .val (.double av), .second, .val (.ref m0), .val (.ref b2), .unset, .unset, .unset, .unset, .unset, .unset] [(.double (FP.dmul aa (FP.dadd (FP.dsub (4607182418800017408 : UInt64) bb) (FP.ddiv (FP.dmul bb (FP.i2d p0)) av))))])) _
    refine XS.dstore X8.here hx rfl (hb hby at_95) rfl (l' := #[.val (.int p0), .val (.int p1), .val (.int p2), .val (.int p3), .val (.int p4), .val (.int ki), .val (.int j), .val (.int ee), .val (.double aa), .second, .val (.double bb), .second, .val (.long sc), .second, .val (.double av), .second, .val (.ref m0), .val (.ref b2), .val (.double (FP.dmul aa (FP.dadd (FP.dsub (4607182418800017408 : UInt64) bb) (FP.ddiv (FP.dmul bb (FP.i2d p0)) av)))), .second, .unset, .unset, .unset, .unset]) rfl ?_
    show Steps p.tables e below (T8.setTop (mkF m 97 #[.val (.int p0), .val (.int p1), .val (.int p2), .val (.int p3), .val (.int p4), .val (.int ki), .val (.int j), .val (.int ee), .val (.double aa), .second, .val (.double bb), .second, .val (.long sc), .second, .val (.double av), .second, .val (.ref m0), .val (.ref b2), .val (.double (FP.dmul aa (FP.dadd (FP.dsub (4607182418800017408 : UInt64) bb) (FP.ddiv (FP.dmul bb (FP.i2d p0)) av)))), .second, .unset, .unset, .unset, .unset] [])) _
    refine XS.iload X8.here hx rfl (hb hby at_97) rfl ?_
    show Steps p.tables e below (T8.setTop (mkF m 99 #[.val (.int p0), .val (.int p1), .val (.int p2), .val (.int p3), .val (.int p4), .val (.int ki), .val (.int j), .val (.int ee), .val (.double aa), .second, .val (.double bb), .second, .val (.long sc), .second, .val (.double av), .second, .val (.ref m0), .val (.ref b2), .val (.double (FP.dmul aa (FP.dadd (FP.dsub (4607182418800017408 : UInt64) bb) (FP.ddiv (FP.dmul bb (FP.i2d p0)) av)))), .second, .unset, .unset, .unset, .unset] [(.int ki)])) _
    refine XS.i2l X8.here hx rfl (hb hby at_99) rfl ?_
    show Steps p.tables e below (T8.setTop (mkF m 100 #[.val (.int p0), .val (.int p1), .val (.int p2), .val (.int p3), .val (.int p4), .val (.int ki), .val (.int j), .val (.int ee), .val (.double aa), .second, .val (.double bb), .second, .val (.long sc), .second, .val (.double av), .second, .val (.ref m0), .val (.ref b2), .val (.double (FP.dmul aa (FP.dadd (FP.dsub (4607182418800017408 : UInt64) bb) (FP.ddiv (FP.dmul bb (FP.i2d p0)) av)))), .second, .unset, .unset, .unset, .unset] [(.long (ki.toInt64))])) _
    refine X8.ldc2Long hx hown3 (mvT hZ3 (hw _ (List.mem_of_getElem? (i := 55) rfl))) (g := (mkF m 100 #[.val (.int p0), .val (.int p1), .val (.int p2), .val (.int p3), .val (.int p4), .val (.int ki), .val (.int j), .val (.int ee), .val (.double aa), .second, .val (.double bb), .second, .val (.long sc), .second, .val (.double av), .second, .val (.ref m0), .val (.ref b2), .val (.double (FP.dmul aa (FP.dadd (FP.dsub (4607182418800017408 : UInt64) bb) (FP.ddiv (FP.dmul bb (FP.i2d p0)) av)))), .second, .unset, .unset, .unset, .unset] [(.long (ki.toInt64))])) rfl (hb hby at_100) _ ?_
    show Steps p.tables e below (T8.setTop (mkF m 103 #[.val (.int p0), .val (.int p1), .val (.int p2), .val (.int p3), .val (.int p4), .val (.int ki), .val (.int j), .val (.int ee), .val (.double aa), .second, .val (.double bb), .second, .val (.long sc), .second, .val (.double av), .second, .val (.ref m0), .val (.ref b2), .val (.double (FP.dmul aa (FP.dadd (FP.dsub (4607182418800017408 : UInt64) bb) (FP.ddiv (FP.dmul bb (FP.i2d p0)) av)))), .second, .unset, .unset, .unset, .unset] [(.long (8 : Int64)), (.long (ki.toInt64))])) _
    refine XS.iload X8.here hx rfl (hb hby at_103) rfl ?_
    show Steps p.tables e below (T8.setTop (mkF m 105 #[.val (.int p0), .val (.int p1), .val (.int p2), .val (.int p3), .val (.int p4), .val (.int ki), .val (.int j), .val (.int ee), .val (.double aa), .second, .val (.double bb), .second, .val (.long sc), .second, .val (.double av), .second, .val (.ref m0), .val (.ref b2), .val (.double (FP.dmul aa (FP.dadd (FP.dsub (4607182418800017408 : UInt64) bb) (FP.ddiv (FP.dmul bb (FP.i2d p0)) av)))), .second, .unset, .unset, .unset, .unset] [(.int j), (.long (8 : Int64)), (.long (ki.toInt64))])) _
    refine XS.i2l X8.here hx rfl (hb hby at_105) rfl ?_
    show Steps p.tables e below (T8.setTop (mkF m 106 #[.val (.int p0), .val (.int p1), .val (.int p2), .val (.int p3), .val (.int p4), .val (.int ki), .val (.int j), .val (.int ee), .val (.double aa), .second, .val (.double bb), .second, .val (.long sc), .second, .val (.double av), .second, .val (.ref m0), .val (.ref b2), .val (.double (FP.dmul aa (FP.dadd (FP.dsub (4607182418800017408 : UInt64) bb) (FP.ddiv (FP.dmul bb (FP.i2d p0)) av)))), .second, .unset, .unset, .unset, .unset] [(.long (j.toInt64)), (.long (8 : Int64)), (.long (ki.toInt64))])) _
    refine XS.lsub X8.here hx rfl (hb hby at_106) rfl ?_
    show Steps p.tables e below (T8.setTop (mkF m 107 #[.val (.int p0), .val (.int p1), .val (.int p2), .val (.int p3), .val (.int p4), .val (.int ki), .val (.int j), .val (.int ee), .val (.double aa), .second, .val (.double bb), .second, .val (.long sc), .second, .val (.double av), .second, .val (.ref m0), .val (.ref b2), .val (.double (FP.dmul aa (FP.dadd (FP.dsub (4607182418800017408 : UInt64) bb) (FP.ddiv (FP.dmul bb (FP.i2d p0)) av)))), .second, .unset, .unset, .unset, .unset] [(.long ((8 : Int64) - (j.toInt64))), (.long (ki.toInt64))])) _
    refine XS.lload X8.here hx rfl (hb hby at_107) rfl ?_
    show Steps p.tables e below (T8.setTop (mkF m 109 #[.val (.int p0), .val (.int p1), .val (.int p2), .val (.int p3), .val (.int p4), .val (.int ki), .val (.int j), .val (.int ee), .val (.double aa), .second, .val (.double bb), .second, .val (.long sc), .second, .val (.double av), .second, .val (.ref m0), .val (.ref b2), .val (.double (FP.dmul aa (FP.dadd (FP.dsub (4607182418800017408 : UInt64) bb) (FP.ddiv (FP.dmul bb (FP.i2d p0)) av)))), .second, .unset, .unset, .unset, .unset] [(.long sc), (.long ((8 : Int64) - (j.toInt64))), (.long (ki.toInt64))])) _
    refine XS.lmul X8.here hx rfl (hb hby at_109) rfl ?_
    show Steps p.tables e below (T8.setTop (mkF m 110 #[.val (.int p0), .val (.int p1), .val (.int p2), .val (.int p3), .val (.int p4), .val (.int ki), .val (.int j), .val (.int ee), .val (.double aa), .second, .val (.double bb), .second, .val (.long sc), .second, .val (.double av), .second, .val (.ref m0), .val (.ref b2), .val (.double (FP.dmul aa (FP.dadd (FP.dsub (4607182418800017408 : UInt64) bb) (FP.ddiv (FP.dmul bb (FP.i2d p0)) av)))), .second, .unset, .unset, .unset, .unset] [(.long (((8 : Int64) - (j.toInt64)) * sc)), (.long (ki.toInt64))])) _
    refine X8.ldc2Long hx hown3 (mvT hZ3 (hw _ (List.mem_of_getElem? (i := 56) rfl))) (g := (mkF m 110 #[.val (.int p0), .val (.int p1), .val (.int p2), .val (.int p3), .val (.int p4), .val (.int ki), .val (.int j), .val (.int ee), .val (.double aa), .second, .val (.double bb), .second, .val (.long sc), .second, .val (.double av), .second, .val (.ref m0), .val (.ref b2), .val (.double (FP.dmul aa (FP.dadd (FP.dsub (4607182418800017408 : UInt64) bb) (FP.ddiv (FP.dmul bb (FP.i2d p0)) av)))), .second, .unset, .unset, .unset, .unset] [(.long (((8 : Int64) - (j.toInt64)) * sc)), (.long (ki.toInt64))])) rfl (hb hby at_110) _ ?_
    show Steps p.tables e below (T8.setTop (mkF m 113 #[.val (.int p0), .val (.int p1), .val (.int p2), .val (.int p3), .val (.int p4), .val (.int ki), .val (.int j), .val (.int ee), .val (.double aa), .second, .val (.double bb), .second, .val (.long sc), .second, .val (.double av), .second, .val (.ref m0), .val (.ref b2), .val (.double (FP.dmul aa (FP.dadd (FP.dsub (4607182418800017408 : UInt64) bb) (FP.ddiv (FP.dmul bb (FP.i2d p0)) av)))), .second, .unset, .unset, .unset, .unset] [(.long (256 : Int64)), (.long (((8 : Int64) - (j.toInt64)) * sc)), (.long (ki.toInt64))])) _
    refine XS.iload X8.here hx rfl (hb hby at_113) rfl ?_
    show Steps p.tables e below (T8.setTop (mkF m 115 #[.val (.int p0), .val (.int p1), .val (.int p2), .val (.int p3), .val (.int p4), .val (.int ki), .val (.int j), .val (.int ee), .val (.double aa), .second, .val (.double bb), .second, .val (.long sc), .second, .val (.double av), .second, .val (.ref m0), .val (.ref b2), .val (.double (FP.dmul aa (FP.dadd (FP.dsub (4607182418800017408 : UInt64) bb) (FP.ddiv (FP.dmul bb (FP.i2d p0)) av)))), .second, .unset, .unset, .unset, .unset] [(.int j), (.long (256 : Int64)), (.long (((8 : Int64) - (j.toInt64)) * sc)), (.long (ki.toInt64))])) _
    refine XS.i2l X8.here hx rfl (hb hby at_115) rfl ?_
    show Steps p.tables e below (T8.setTop (mkF m 116 #[.val (.int p0), .val (.int p1), .val (.int p2), .val (.int p3), .val (.int p4), .val (.int ki), .val (.int j), .val (.int ee), .val (.double aa), .second, .val (.double bb), .second, .val (.long sc), .second, .val (.double av), .second, .val (.ref m0), .val (.ref b2), .val (.double (FP.dmul aa (FP.dadd (FP.dsub (4607182418800017408 : UInt64) bb) (FP.ddiv (FP.dmul bb (FP.i2d p0)) av)))), .second, .unset, .unset, .unset, .unset] [(.long (j.toInt64)), (.long (256 : Int64)), (.long (((8 : Int64) - (j.toInt64)) * sc)), (.long (ki.toInt64))])) _
    refine XS.lmul X8.here hx rfl (hb hby at_116) rfl ?_
    show Steps p.tables e below (T8.setTop (mkF m 117 #[.val (.int p0), .val (.int p1), .val (.int p2), .val (.int p3), .val (.int p4), .val (.int ki), .val (.int j), .val (.int ee), .val (.double aa), .second, .val (.double bb), .second, .val (.long sc), .second, .val (.double av), .second, .val (.ref m0), .val (.ref b2), .val (.double (FP.dmul aa (FP.dadd (FP.dsub (4607182418800017408 : UInt64) bb) (FP.ddiv (FP.dmul bb (FP.i2d p0)) av)))), .second, .unset, .unset, .unset, .unset] [(.long ((256 : Int64) * (j.toInt64))), (.long (((8 : Int64) - (j.toInt64)) * sc)), (.long (ki.toInt64))])) _
    refine XS.iloadN X8.here hx rfl (hb hby at_117) rfl ?_
    show Steps p.tables e below (T8.setTop (mkF m 118 #[.val (.int p0), .val (.int p1), .val (.int p2), .val (.int p3), .val (.int p4), .val (.int ki), .val (.int j), .val (.int ee), .val (.double aa), .second, .val (.double bb), .second, .val (.long sc), .second, .val (.double av), .second, .val (.ref m0), .val (.ref b2), .val (.double (FP.dmul aa (FP.dadd (FP.dsub (4607182418800017408 : UInt64) bb) (FP.ddiv (FP.dmul bb (FP.i2d p0)) av)))), .second, .unset, .unset, .unset, .unset] [(.int p0), (.long ((256 : Int64) * (j.toInt64))), (.long (((8 : Int64) - (j.toInt64)) * sc)), (.long (ki.toInt64))])) _
    refine XS.i2l X8.here hx rfl (hb hby at_118) rfl ?_
    show Steps p.tables e below (T8.setTop (mkF m 119 #[.val (.int p0), .val (.int p1), .val (.int p2), .val (.int p3), .val (.int p4), .val (.int ki), .val (.int j), .val (.int ee), .val (.double aa), .second, .val (.double bb), .second, .val (.long sc), .second, .val (.double av), .second, .val (.ref m0), .val (.ref b2), .val (.double (FP.dmul aa (FP.dadd (FP.dsub (4607182418800017408 : UInt64) bb) (FP.ddiv (FP.dmul bb (FP.i2d p0)) av)))), .second, .unset, .unset, .unset, .unset] [(.long (p0.toInt64)), (.long ((256 : Int64) * (j.toInt64))), (.long (((8 : Int64) - (j.toInt64)) * sc)), (.long (ki.toInt64))])) _
    refine XS.lmul X8.here hx rfl (hb hby at_119) rfl ?_
    show Steps p.tables e below (T8.setTop (mkF m 120 #[.val (.int p0), .val (.int p1), .val (.int p2), .val (.int p3), .val (.int p4), .val (.int ki), .val (.int j), .val (.int ee), .val (.double aa), .second, .val (.double bb), .second, .val (.long sc), .second, .val (.double av), .second, .val (.ref m0), .val (.ref b2), .val (.double (FP.dmul aa (FP.dadd (FP.dsub (4607182418800017408 : UInt64) bb) (FP.ddiv (FP.dmul bb (FP.i2d p0)) av)))), .second, .unset, .unset, .unset, .unset] [(.long (((256 : Int64) * (j.toInt64)) * (p0.toInt64))), (.long (((8 : Int64) - (j.toInt64)) * sc)), (.long (ki.toInt64))])) _
    refine XS.ladd X8.here hx rfl (hb hby at_120) rfl ?_
    show Steps p.tables e below (T8.setTop (mkF m 121 #[.val (.int p0), .val (.int p1), .val (.int p2), .val (.int p3), .val (.int p4), .val (.int ki), .val (.int j), .val (.int ee), .val (.double aa), .second, .val (.double bb), .second, .val (.long sc), .second, .val (.double av), .second, .val (.ref m0), .val (.ref b2), .val (.double (FP.dmul aa (FP.dadd (FP.dsub (4607182418800017408 : UInt64) bb) (FP.ddiv (FP.dmul bb (FP.i2d p0)) av)))), .second, .unset, .unset, .unset, .unset] [(.long ((((8 : Int64) - (j.toInt64)) * sc) + (((256 : Int64) * (j.toInt64)) * (p0.toInt64)))), (.long (ki.toInt64))])) _
    refine XS.lmul X8.here hx rfl (hb hby at_121) rfl ?_
    show Steps p.tables e below (T8.setTop (mkF m 122 #[.val (.int p0), .val (.int p1), .val (.int p2), .val (.int p3), .val (.int p4), .val (.int ki), .val (.int j), .val (.int ee), .val (.double aa), .second, .val (.double bb), .second, .val (.long sc), .second, .val (.double av), .second, .val (.ref m0), .val (.ref b2), .val (.double (FP.dmul aa (FP.dadd (FP.dsub (4607182418800017408 : UInt64) bb) (FP.ddiv (FP.dmul bb (FP.i2d p0)) av)))), .second, .unset, .unset, .unset, .unset] [(.long ((ki.toInt64) * ((((8 : Int64) - (j.toInt64)) * sc) + (((256 : Int64) * (j.toInt64)) * (p0.toInt64)))))])) _
    rw [hv121]
    show Steps p.tables e below (T8.setTop (mkF m 122 #[.val (.int p0), .val (.int p1), .val (.int p2), .val (.int p3), .val (.int p4), .val (.int ki), .val (.int j), .val (.int ee), .val (.double aa), .second, .val (.double bb), .second, .val (.long sc), .second, .val (.double av), .second, .val (.ref m0), .val (.ref b2), .val (.double (FP.dmul aa (FP.dadd (FP.dsub (4607182418800017408 : UInt64) bb) (FP.ddiv (FP.dmul bb (FP.i2d p0)) av)))), .second, .unset, .unset, .unset, .unset] [(.long nu)])) _
    refine XS.lstore X8.here hx rfl (hb hby at_122) rfl (l' := #[.val (.int p0), .val (.int p1), .val (.int p2), .val (.int p3), .val (.int p4), .val (.int ki), .val (.int j), .val (.int ee), .val (.double aa), .second, .val (.double bb), .second, .val (.long sc), .second, .val (.double av), .second, .val (.ref m0), .val (.ref b2), .val (.double (FP.dmul aa (FP.dadd (FP.dsub (4607182418800017408 : UInt64) bb) (FP.ddiv (FP.dmul bb (FP.i2d p0)) av)))), .second, .val (.long nu), .second, .unset, .unset]) rfl ?_
    show Steps p.tables e below (T8.setTop (mkF m 124 #[.val (.int p0), .val (.int p1), .val (.int p2), .val (.int p3), .val (.int p4), .val (.int ki), .val (.int j), .val (.int ee), .val (.double aa), .second, .val (.double bb), .second, .val (.long sc), .second, .val (.double av), .second, .val (.ref m0), .val (.ref b2), .val (.double (FP.dmul aa (FP.dadd (FP.dsub (4607182418800017408 : UInt64) bb) (FP.ddiv (FP.dmul bb (FP.i2d p0)) av)))), .second, .val (.long nu), .second, .unset, .unset] [])) _
    refine XS.lload X8.here hx rfl (hb hby at_124) rfl ?_
    show Steps p.tables e below (T8.setTop (mkF m 126 #[.val (.int p0), .val (.int p1), .val (.int p2), .val (.int p3), .val (.int p4), .val (.int ki), .val (.int j), .val (.int ee), .val (.double aa), .second, .val (.double bb), .second, .val (.long sc), .second, .val (.double av), .second, .val (.ref m0), .val (.ref b2), .val (.double (FP.dmul aa (FP.dadd (FP.dsub (4607182418800017408 : UInt64) bb) (FP.ddiv (FP.dmul bb (FP.i2d p0)) av)))), .second, .val (.long nu), .second, .unset, .unset] [(.long nu)])) _
    refine XS.l2dS X8.here hx rfl (hb hby at_126) rfl (v := (FP.l2d nu)) rfl ?_
    show Steps p.tables e below (T8.setTop (mkF m 127 #[.val (.int p0), .val (.int p1), .val (.int p2), .val (.int p3), .val (.int p4), .val (.int ki), .val (.int j), .val (.int ee), .val (.double aa), .second, .val (.double bb), .second, .val (.long sc), .second, .val (.double av), .second, .val (.ref m0), .val (.ref b2), .val (.double (FP.dmul aa (FP.dadd (FP.dsub (4607182418800017408 : UInt64) bb) (FP.ddiv (FP.dmul bb (FP.i2d p0)) av)))), .second, .val (.long nu), .second, .unset, .unset] [(.double (FP.l2d nu))])) _
    refine X8.ldc2Long hx hown3 (mvT hZ3 (hw _ (List.mem_of_getElem? (i := 57) rfl))) (g := (mkF m 127 #[.val (.int p0), .val (.int p1), .val (.int p2), .val (.int p3), .val (.int p4), .val (.int ki), .val (.int j), .val (.int ee), .val (.double aa), .second, .val (.double bb), .second, .val (.long sc), .second, .val (.double av), .second, .val (.ref m0), .val (.ref b2), .val (.double (FP.dmul aa (FP.dadd (FP.dsub (4607182418800017408 : UInt64) bb) (FP.ddiv (FP.dmul bb (FP.i2d p0)) av)))), .second, .val (.long nu), .second, .unset, .unset] [(.double (FP.l2d nu))])) rfl (hb hby at_127) _ ?_
    show Steps p.tables e below (T8.setTop (mkF m 130 #[.val (.int p0), .val (.int p1), .val (.int p2), .val (.int p3), .val (.int p4), .val (.int ki), .val (.int j), .val (.int ee), .val (.double aa), .second, .val (.double bb), .second, .val (.long sc), .second, .val (.double av), .second, .val (.ref m0), .val (.ref b2), .val (.double (FP.dmul aa (FP.dadd (FP.dsub (4607182418800017408 : UInt64) bb) (FP.ddiv (FP.dmul bb (FP.i2d p0)) av)))), .second, .val (.long nu), .second, .unset, .unset] [(.long (32 : Int64)), (.double (FP.l2d nu))])) _
    refine XS.lload X8.here hx rfl (hb hby at_130) rfl ?_
    show Steps p.tables e below (T8.setTop (mkF m 132 #[.val (.int p0), .val (.int p1), .val (.int p2), .val (.int p3), .val (.int p4), .val (.int ki), .val (.int j), .val (.int ee), .val (.double aa), .second, .val (.double bb), .second, .val (.long sc), .second, .val (.double av), .second, .val (.ref m0), .val (.ref b2), .val (.double (FP.dmul aa (FP.dadd (FP.dsub (4607182418800017408 : UInt64) bb) (FP.ddiv (FP.dmul bb (FP.i2d p0)) av)))), .second, .val (.long nu), .second, .unset, .unset] [(.long sc), (.long (32 : Int64)), (.double (FP.l2d nu))])) _
    refine XS.lmul X8.here hx rfl (hb hby at_132) rfl ?_
    show Steps p.tables e below (T8.setTop (mkF m 133 #[.val (.int p0), .val (.int p1), .val (.int p2), .val (.int p3), .val (.int p4), .val (.int ki), .val (.int j), .val (.int ee), .val (.double aa), .second, .val (.double bb), .second, .val (.long sc), .second, .val (.double av), .second, .val (.ref m0), .val (.ref b2), .val (.double (FP.dmul aa (FP.dadd (FP.dsub (4607182418800017408 : UInt64) bb) (FP.ddiv (FP.dmul bb (FP.i2d p0)) av)))), .second, .val (.long nu), .second, .unset, .unset] [(.long ((32 : Int64) * sc)), (.double (FP.l2d nu))])) _
    rw [hv132]
    show Steps p.tables e below (T8.setTop (mkF m 133 #[.val (.int p0), .val (.int p1), .val (.int p2), .val (.int p3), .val (.int p4), .val (.int ki), .val (.int j), .val (.int ee), .val (.double aa), .second, .val (.double bb), .second, .val (.long sc), .second, .val (.double av), .second, .val (.ref m0), .val (.ref b2), .val (.double (FP.dmul aa (FP.dadd (FP.dsub (4607182418800017408 : UInt64) bb) (FP.ddiv (FP.dmul bb (FP.i2d p0)) av)))), .second, .val (.long nu), .second, .unset, .unset] [(.long de), (.double (FP.l2d nu))])) _
    refine XS.l2dS X8.here hx rfl (hb hby at_133) rfl (v := (FP.l2d de)) rfl ?_
    show Steps p.tables e below (T8.setTop (mkF m 134 #[.val (.int p0), .val (.int p1), .val (.int p2), .val (.int p3), .val (.int p4), .val (.int ki), .val (.int j), .val (.int ee), .val (.double aa), .second, .val (.double bb), .second, .val (.long sc), .second, .val (.double av), .second, .val (.ref m0), .val (.ref b2), .val (.double (FP.dmul aa (FP.dadd (FP.dsub (4607182418800017408 : UInt64) bb) (FP.ddiv (FP.dmul bb (FP.i2d p0)) av)))), .second, .val (.long nu), .second, .unset, .unset] [(.double (FP.l2d de)), (.double (FP.l2d nu))])) _
    refine XS.ddivS X8.here hx rfl (hb hby at_134) rfl nn134 (v := (FP.ddiv (FP.l2d nu) (FP.l2d de))) rfl ?_
    show Steps p.tables e below (T8.setTop (mkF m 135 #[.val (.int p0), .val (.int p1), .val (.int p2), .val (.int p3), .val (.int p4), .val (.int ki), .val (.int j), .val (.int ee), .val (.double aa), .second, .val (.double bb), .second, .val (.long sc), .second, .val (.double av), .second, .val (.ref m0), .val (.ref b2), .val (.double (FP.dmul aa (FP.dadd (FP.dsub (4607182418800017408 : UInt64) bb) (FP.ddiv (FP.dmul bb (FP.i2d p0)) av)))), .second, .val (.long nu), .second, .unset, .unset] [(.double (FP.ddiv (FP.l2d nu) (FP.l2d de)))])) _
    refine XS.dstore X8.here hx rfl (hb hby at_135) rfl (l' := #[.val (.int p0), .val (.int p1), .val (.int p2), .val (.int p3), .val (.int p4), .val (.int ki), .val (.int j), .val (.int ee), .val (.double aa), .second, .val (.double bb), .second, .val (.long sc), .second, .val (.double av), .second, .val (.ref m0), .val (.ref b2), .val (.double (FP.dmul aa (FP.dadd (FP.dsub (4607182418800017408 : UInt64) bb) (FP.ddiv (FP.dmul bb (FP.i2d p0)) av)))), .second, .val (.long nu), .second, .val (.double (FP.ddiv (FP.l2d nu) (FP.l2d de))), .second]) rfl ?_
    show Steps p.tables e below (T8.setTop (mkF m 137 #[.val (.int p0), .val (.int p1), .val (.int p2), .val (.int p3), .val (.int p4), .val (.int ki), .val (.int j), .val (.int ee), .val (.double aa), .second, .val (.double bb), .second, .val (.long sc), .second, .val (.double av), .second, .val (.ref m0), .val (.ref b2), .val (.double (FP.dmul aa (FP.dadd (FP.dsub (4607182418800017408 : UInt64) bb) (FP.ddiv (FP.dmul bb (FP.i2d p0)) av)))), .second, .val (.long nu), .second, .val (.double (FP.ddiv (FP.l2d nu) (FP.l2d de))), .second] [])) _
    refine XS.dload X8.here hx rfl (hb hby at_137) rfl ?_
    show Steps p.tables e below (T8.setTop (mkF m 139 #[.val (.int p0), .val (.int p1), .val (.int p2), .val (.int p3), .val (.int p4), .val (.int ki), .val (.int j), .val (.int ee), .val (.double aa), .second, .val (.double bb), .second, .val (.long sc), .second, .val (.double av), .second, .val (.ref m0), .val (.ref b2), .val (.double (FP.dmul aa (FP.dadd (FP.dsub (4607182418800017408 : UInt64) bb) (FP.ddiv (FP.dmul bb (FP.i2d p0)) av)))), .second, .val (.long nu), .second, .val (.double (FP.ddiv (FP.l2d nu) (FP.l2d de))), .second] [(.double (FP.dmul aa (FP.dadd (FP.dsub (4607182418800017408 : UInt64) bb) (FP.ddiv (FP.dmul bb (FP.i2d p0)) av))))])) _
    refine XS.dload X8.here hx rfl (hb hby at_139) rfl ?_
    show Steps p.tables e below (T8.setTop (mkF m 141 #[.val (.int p0), .val (.int p1), .val (.int p2), .val (.int p3), .val (.int p4), .val (.int ki), .val (.int j), .val (.int ee), .val (.double aa), .second, .val (.double bb), .second, .val (.long sc), .second, .val (.double av), .second, .val (.ref m0), .val (.ref b2), .val (.double (FP.dmul aa (FP.dadd (FP.dsub (4607182418800017408 : UInt64) bb) (FP.ddiv (FP.dmul bb (FP.i2d p0)) av)))), .second, .val (.long nu), .second, .val (.double (FP.ddiv (FP.l2d nu) (FP.l2d de))), .second] [(.double (FP.ddiv (FP.l2d nu) (FP.l2d de))), (.double (FP.dmul aa (FP.dadd (FP.dsub (4607182418800017408 : UInt64) bb) (FP.ddiv (FP.dmul bb (FP.i2d p0)) av))))])) _
    refine XS.dcmpS X8.here hx rfl (hb hby at_141) rfl (v := (0 : Int32)) hd141 ?_
    show Steps p.tables e below (T8.setTop (mkF m 142 #[.val (.int p0), .val (.int p1), .val (.int p2), .val (.int p3), .val (.int p4), .val (.int ki), .val (.int j), .val (.int ee), .val (.double aa), .second, .val (.double bb), .second, .val (.long sc), .second, .val (.double av), .second, .val (.ref m0), .val (.ref b2), .val (.double (FP.dmul aa (FP.dadd (FP.dsub (4607182418800017408 : UInt64) bb) (FP.ddiv (FP.dmul bb (FP.i2d p0)) av)))), .second, .val (.long nu), .second, .val (.double (FP.ddiv (FP.l2d nu) (FP.l2d de))), .second] [(.int (0 : Int32))])) _
    refine XS.ifNo X8.here hx rfl (hb hby at_142) rfl ((if0 _ _).trans (teq (by decide : (0 : Int32) = (0 : Int32))).2) ?_
    show Steps p.tables e below (T8.setTop (mkF m 145 #[.val (.int p0), .val (.int p1), .val (.int p2), .val (.int p3), .val (.int p4), .val (.int ki), .val (.int j), .val (.int ee), .val (.double aa), .second, .val (.double bb), .second, .val (.long sc), .second, .val (.double av), .second, .val (.ref m0), .val (.ref b2), .val (.double (FP.dmul aa (FP.dadd (FP.dsub (4607182418800017408 : UInt64) bb) (FP.ddiv (FP.dmul bb (FP.i2d p0)) av)))), .second, .val (.long nu), .second, .val (.double (FP.ddiv (FP.l2d nu) (FP.l2d de))), .second] [])) _
    refine XS.iconst X8.here hx rfl (hb hby at_145) ?_
    show Steps p.tables e below (T8.setTop (mkF m 146 #[.val (.int p0), .val (.int p1), .val (.int p2), .val (.int p3), .val (.int p4), .val (.int ki), .val (.int j), .val (.int ee), .val (.double aa), .second, .val (.double bb), .second, .val (.long sc), .second, .val (.double av), .second, .val (.ref m0), .val (.ref b2), .val (.double (FP.dmul aa (FP.dadd (FP.dsub (4607182418800017408 : UInt64) bb) (FP.ddiv (FP.dmul bb (FP.i2d p0)) av)))), .second, .val (.long nu), .second, .val (.double (FP.ddiv (FP.l2d nu) (FP.l2d de))), .second] [(.int (1 : Int32))])) _
    refine XS.goto X8.here hx rfl (pc0 := 146) (pc' := 150) rfl (hb hby at_146) (by decide) (by decide) ?_
    show Steps p.tables e below (T8.setTop (mkF m 150 #[.val (.int p0), .val (.int p1), .val (.int p2), .val (.int p3), .val (.int p4), .val (.int ki), .val (.int j), .val (.int ee), .val (.double aa), .second, .val (.double bb), .second, .val (.long sc), .second, .val (.double av), .second, .val (.ref m0), .val (.ref b2), .val (.double (FP.dmul aa (FP.dadd (FP.dsub (4607182418800017408 : UInt64) bb) (FP.ddiv (FP.dmul bb (FP.i2d p0)) av)))), .second, .val (.long nu), .second, .val (.double (FP.ddiv (FP.l2d nu) (FP.l2d de))), .second] [(.int (1 : Int32))])) _
    exact retN X8 hx (t := .boolean) Bd.returns (by simp) (hb hby at_150) hr
  · show Q0 n0 _ T8.heap _
    rw [e8]
    exact ⟨rfl, N8⟩
set_option maxRecDepth 65536 in
set_option maxHeartbeats 40000000 in
theorem rm01 (l : Launch) (Z : State) (a0 : Array Value) (hw : ∀ d ∈ tables_1, d.before a0 Z = true) (ws : List Jvm.Cond) (p0 : Int32) (p1 : Int32) (p2 : Int32) (p3 : Int32) (p4 : Int32) (m0 : Addr) (m1 : Addr) (ki : Int32) (j : Int32) (ee : Int32) (aa : UInt64) (bb : UInt64) (sc : Int64) (av : UInt64) (nu : Int64) (de : Int64) (h0 : Heap) (n0 : Nat) (Z0 : n0 ≤ h0.size) (S_SMOOTHED : Sta Z h0 "com/example/nelira/nelira/ranking/Bm25$Idf" "SMOOTHED" "Lcom/example/nelira/nelira/ranking/Bm25$Idf;" (.ref m0)) (S_OKAPI : Sta Z h0 "com/example/nelira/nelira/ranking/Bm25$Idf" "OKAPI" "Lcom/example/nelira/nelira/ranking/Bm25$Idf;" (.ref m1)) (hv3 : (p1 &&& (31 : Int32)) = ki) (hv12 : ((p2 &&& (2147483647 : Int32)) % (9 : Int32)) = j) (hv18 : (p3 &&& (15 : Int32)) = ee) (nn27 : Jvm.Free.Fl.NoNaN64 (FP.ddiv (FP.i2d ki) (4616189618054758400 : UInt64))) (hq27 : (FP.ddiv (FP.i2d ki) (4616189618054758400 : UInt64)) = aa) (nn36 : Jvm.Free.Fl.NoNaN64 (FP.ddiv (FP.i2d j) (4620693217682128896 : UInt64))) (hq36 : (FP.ddiv (FP.i2d j) (4620693217682128896 : UInt64)) = bb) (hv42 : ((1 : Int64) <<< (ee &&& 0x3f).toInt64) = sc) (nn51 : Jvm.Free.Fl.NoNaN64 (FP.ddiv (FP.l2d sc) (4643211215818981376 : UInt64))) (hq51 : (FP.ddiv (FP.l2d sc) (4643211215818981376 : UInt64)) = av) (hc58 : ¬ ((p4 &&& (1 : Int32)) = (0 : Int32))) (nna1_1_8_82 : Jvm.Free.Fl.NoNaN64 aa) (hd7_1_8_82 : (cmpValue (FP.dcmp (aa &&& 0x7fffffffffffffff) (9218868437227405311 : UInt64)) .g) = (-1 : Int32)) (hc10_8_82 : ¬ ((cmpValue (FP.dcmp aa (0 : UInt64)) .g) < (0 : Int32))) (hc3_18_82 : ¬ ((cmpValue (FP.dcmp bb (0 : UInt64)) .l) < (0 : Int32))) (hc9_18_82 : ¬ ((0 : Int32) < (cmpValue (FP.dcmp bb (4607182418800017408 : UInt64)) .g))) (nn3_10_92 : Jvm.Free.Fl.NoNaN64 (FP.dsub (4607182418800017408 : UInt64) bb)) (nn8_10_92 : Jvm.Free.Fl.NoNaN64 (FP.dmul bb (FP.i2d p0))) (nn11_10_92 : Jvm.Free.Fl.NoNaN64 (FP.ddiv (FP.dmul bb (FP.i2d p0)) av)) (nn12_10_92 : Jvm.Free.Fl.NoNaN64 (FP.dadd (FP.dsub (4607182418800017408 : UInt64) bb) (FP.ddiv (FP.dmul bb (FP.i2d p0)) av))) (nn13_10_92 : Jvm.Free.Fl.NoNaN64 (FP.dmul aa (FP.dadd (FP.dsub (4607182418800017408 : UInt64) bb) (FP.ddiv (FP.dmul bb (FP.i2d p0)) av)))) (hv121 : ((ki.toInt64) * ((((8 : Int64) - (j.toInt64)) * sc) + (((256 : Int64) * (j.toInt64)) * (p0.toInt64)))) = nu) (hv132 : ((32 : Int64) * sc) = de) (nn134 : Jvm.Free.Fl.NoNaN64 (FP.ddiv (FP.l2d nu) (FP.l2d de))) (hd141 : (cmpValue (FP.dcmp (FP.dmul aa (FP.dadd (FP.dsub (4607182418800017408 : UInt64) bb) (FP.ddiv (FP.dmul bb (FP.i2d p0)) av))) (FP.ddiv (FP.l2d nu) (FP.l2d de))) .l) = (0 : Int32)) :
    MetFree l x (head1 (Jvm.Cond.code x code maxLocals ret :: ws) room_1) (fun a U => a = #[(.int p0), (.int p1), (.int p2), (.int p3), (.int p4)] ∧ Z.Warmed39 U.vm ∧ U.heap = h0) (fun _ _ _ _ _ => True) (fun _ U o U' => ∃ v L, o = .returned v ∧ Q0 n0 v U'.heap L ∧ ReturnedEndW U o U' L room_1.cells room_1.slots) := by
  refine MetFree.of_bodySF (plainFor_of_name pn_com_example_nelira_nelira_ranking_Bm25NormPinLaw) hisR ?_
  intro p e s m args below meth c s₁ Bd hml0 hP hK
  obtain ⟨rfl, hZ, hh⟩ := hP
  have hx := Bd.exec
  have hby := Bd.bytes
  have hml : c.maxLocals = 24 := hml0
  have hown : s.vm.findClass "com/example/nelira/nelira/ranking/Bm25NormPinLaw" = some m.cls := findClass_of_methodNamed Bd.named
  have hnm := (name_of_methodNamed Bd.named Bd.method).1
  have X0 : Stand p l e room_1 s m #[(.int p0), (.int p1), (.int p2), (.int p3), (.int p4)] below meth c s₁ [] 0 0 := Stand.of_body Bd
  have e0 : s₁.heap = h0 := by rw [← hh, Bd.state]; rfl
  have N0 := Fr.nil n0
  have pre0 : ∀ t, Steps p.tables e below (s₁.setTop (mkF m 0 #[.val (.int p0), .val (.int p1), .val (.int p2), .val (.int p3), .val (.int p4), .unset, .unset, .unset, .unset, .unset, .unset, .unset, .unset, .unset, .unset, .unset, .unset, .unset, .unset, .unset, .unset, .unset, .unset, .unset] [])) t → Steps p.tables e below (s₁.setTop (entryFrame m #[(.int p0), (.int p1), (.int p2), (.int p3), (.int p4)] maxLocals)) t := fun t k => castTop (ef_0_IIIII m p0 p1 p2 p3 p4) k
  obtain ⟨vm0, k00, X0, hS0, hk0, hZ0, hown0⟩ := own_W0 X0 e0 hZ hown
  obtain ⟨T1, X1, e1, st1⟩ := getS2 X0 hx hZ0 hown0 (host := "") (Or.inl (hw _ (List.mem_of_getElem? (i := 58) rfl))) Via.refl e0 S_OKAPI (g := (mkF m 61 #[.val (.int p0), .val (.int p1), .val (.int p2), .val (.int p3), .val (.int p4), .val (.int ki), .val (.int j), .val (.int ee), .val (.double aa), .second, .val (.double bb), .second, .val (.long sc), .second, .val (.double av), .second, .unset, .unset, .unset, .unset, .unset, .unset, .unset, .unset] [])) rfl (hb hby at_61)
  obtain ⟨T2, h2, X2, e2, E2, A2, D2, -, st2⟩ := newO X1 hx hZ0 hown0 (hw _ (List.mem_of_getElem? (i := 7) rfl)) (hw _ (List.mem_of_getElem? (i := 8) rfl)) (hw _ (List.mem_of_getElem? (i := 9) rfl)) e1 (g := (mkF m 72 #[.val (.int p0), .val (.int p1), .val (.int p2), .val (.int p3), .val (.int p4), .val (.int ki), .val (.int j), .val (.int ee), .val (.double aa), .second, .val (.double bb), .second, .val (.long sc), .second, .val (.double av), .second, .val (.ref m1), .unset, .unset, .unset, .unset, .unset, .unset, .unset] [])) rfl (hb hby at_72) (by decide) (by decide)
  obtain ⟨b2, g2⟩ : ∃ z, z = h0.size := ⟨_, rfl⟩
  rw [← g2] at A2 D2 st2
  have g_b2 : n0 ≤ b2 := Nat.le_trans Z0 (Nat.le_of_eq g2.symm)
  have sz_b2 : h0.size ≤ b2 := Nat.le_trans (Keep.refl h0 []).1 (Nat.le_of_eq g2.symm)
  have K2 : Keep h0 h2 [] := (Keep.refl h0 []).ext E2
  have Zs2 := Nat.le_trans Z0 E2.1
  have hk2 := Nat.le_trans hk0 E2.1
  have F2__k1 : Fld Z h2 b2 "com/example/nelira/nelira/ranking/Bm25" "_k1" "D" (.double (0 : UInt64)) := D2 (Or.inr (hw _ (List.mem_of_getElem? (i := 38) rfl))) (ty := .double) (by decide)
  have F2__b : Fld Z h2 b2 "com/example/nelira/nelira/ranking/Bm25" "_b" "D" (.double (0 : UInt64)) := D2 (Or.inr (hw _ (List.mem_of_getElem? (i := 44) rfl))) (ty := .double) (by decide)
  have F2__idf : Fld Z h2 b2 "com/example/nelira/nelira/ranking/Bm25" "_idf" "Lcom/example/nelira/nelira/ranking/Bm25$Idf;" .null := D2 (Or.inr (hw _ (List.mem_of_getElem? (i := 46) rfl))) (ty := (.object "com/example/nelira/nelira/ranking/Bm25$Idf")) (by decide)
  obtain ⟨_, _, ⟨T3, L3, k3, n3⟩, -, X3, hs3, gr3, ⟨Lc3, hQ3, lq3, yq3, zq3⟩, st3⟩ := X2.specialBackS hx (y := (⟨"com/example/nelira/nelira/ranking/Bm25", "<init>", "(DDLcom/example/nelira/nelira/ranking/Bm25$Idf;)V"⟩ : MethodName)) rfl hown0 (mvT hZ0 (hw _ (List.mem_of_getElem? (i := 10) rfl))) (mvT hZ0 (hw _ (List.mem_of_getElem? (i := 11) rfl))) (mvT hZ0 (hw _ (List.mem_of_getElem? (i := 12) rfl))) (by decide) (backOfS (W := 1) (ini l Z a0 hw [] b2 aa bb m1 h2 n0 Zs2 A2 g_b2 F2__k1 F2__b F2__idf nna1_1_8_82 hd7_1_8_82 hc10_8_82 hc3_18_82 hc9_18_82) hZ0 (hw _ (List.mem_of_getElem? (i := 12) rfl)) (hw _ (List.mem_of_getElem? (i := 9) rfl)) (by decide) (by decide)) (g := (mkF m 82 #[.val (.int p0), .val (.int p1), .val (.int p2), .val (.int p3), .val (.int p4), .val (.int ki), .val (.int j), .val (.int ee), .val (.double aa), .second, .val (.double bb), .second, .val (.long sc), .second, .val (.double av), .second, .val (.ref m1), .unset, .unset, .unset, .unset, .unset, .unset, .unset] [(.ref m1), (.double bb), (.double aa), (.ref b2), (.ref b2)])) rfl (by rw [hml]; rfl) (Steps.refl _) (a := b2) (argsL := [(.double aa), (.double bb), (.ref m1)]) (rest := [(.ref b2)]) (lenOf pd_4 rfl) rfl (by show 2 * 0 + _ ≤ _; exact Nat.le_of_eq rfl) (hb hby at_82) (fun _ _ => ⟨rfl, e2, (by decide : 1 + 4 ≤ _), (by decide : 3 + 20 ≤ _)⟩)
  dsimp only [Pt.U, Pt.locs, Pt.cells, Pt.slots] at X3 lq3 yq3 zq3 st3 hQ3 hs3 gr3
  rw [lq3, yq3, zq3] at X3
  obtain ⟨X3, hS3, hZ3, hown3⟩ := own_fold X3 hS0 hs3 (Nat.le_trans (by rw [e2]; exact hk2) gr3) hZ0 hown0
  obtain ⟨rfl, N3q, K3q, f4, f5, f6⟩ := hQ3
  have N3 := Fr.app N0 N3q
  have f7 := A2.keep K3q
  have K3 : Keep h0 T3.heap [] := K2.trans K3q (own_allS (Or.inr sz_b2) own_all0)
  have Zs3 := Nat.le_trans Zs2 K3q.1
  have hk3 := Nat.le_trans hk2 K3q.1
  have hkq3 : T3.heap.size ≤ T3.heap.size := Nat.le_refl _
  obtain ⟨cq8, kq8, q8a, q8b, q8c⟩ := isOf hZ3 rfl f4
  obtain ⟨_, _, ⟨T8, L8, k8, n8⟩, -, X8, ⟨Lc8, hQ8, lq8, yq8, zq8⟩, st8⟩ := X3.virtualBack hx (y := (⟨"com/example/nelira/nelira/ranking/Bm25", "norm", "(ID)D"⟩ : MethodName)) (z := (⟨"com/example/nelira/nelira/ranking/Bm25", "norm", "(ID)D"⟩ : MethodName)) hown3 (mvT hZ3 (hw _ (List.mem_of_getElem? (i := 47) rfl))) (mvT hZ3 (hw _ (List.mem_of_getElem? (i := 48) rfl))) (notFace_of_selects (args := #[]) (mvT hZ3 (hw _ (List.mem_of_getElem? (i := 50) rfl)))) (mvT hZ3 (hw _ (List.mem_of_getElem? (i := 50) rfl))) (mvT hZ3 (hw _ (List.mem_of_getElem? (i := 49) rfl))) (by decide) (backOf (W := 0) (nrm l Z a0 hw [] b2 p0 av aa bb T3.heap n0 Zs3 f5 f6 nn3_10_92 nn8_10_92 nn11_10_92 nn12_10_92 nn13_10_92) hZ3 (hw _ (List.mem_of_getElem? (i := 51) rfl)) (hw _ (List.mem_of_getElem? (i := 9) rfl)) (by decide) (by decide)) q8a q8c (g := (mkF m 92 #[.val (.int p0), .val (.int p1), .val (.int p2), .val (.int p3), .val (.int p4), .val (.int ki), .val (.int j), .val (.int ee), .val (.double aa), .second, .val (.double bb), .second, .val (.long sc), .second, .val (.double av), .second, .val (.ref m1), .val (.ref b2), .unset, .unset, .unset, .unset, .unset, .unset] [(.double av), (.int p0), (.ref b2)])) rfl (by rw [hml]; rfl) (Steps.refl _) (argsL := [(.int p0), (.double av)]) (rest := []) (lenOf pd_5 rfl) rfl (by show 2 * 0 + _ ≤ _; exact Nat.le_of_eq rfl) (hb hby at_92) (fun _ _ => ⟨rfl, rfl, (by decide : 5 + 0 ≤ _), (by decide : 23 + 0 ≤ _)⟩)
  dsimp only [Pt.U, Pt.locs, Pt.cells, Pt.slots] at X8 lq8 yq8 zq8 st8 hQ8
  rw [lq8, yq8, zq8] at X8
  obtain ⟨rfl, N8q, eh8⟩ := hQ8
  have N8 := Fr.app N3 N8q
  have e8 : T8.heap = T3.heap := eh8
  obtain ⟨fs, hr, hrun, hended, hRW⟩ := X8.leaveW hS3 (by rw [e8]; exact hkq3) (v := some (.int (1 : Int32))) (fun h => by rw [Bd.returns] at h; cases h)
  refine ⟨_, _, pre0 _ ?_, hrun, hended, _, _, rfl, ?_, ⟨_, rfl⟩, hRW.2.1, hRW.2.2.1, hRW.2.2.2.mono (by decide) (by decide)⟩
  · show Steps p.tables e below (s₁.setTop (mkF m 0 #[.val (.int p0), .val (.int p1), .val (.int p2), .val (.int p3), .val (.int p4), .unset, .unset, .unset, .unset, .unset, .unset, .unset, .unset, .unset, .unset, .unset, .unset, .unset, .unset, .unset, .unset, .unset, .unset, .unset] [])) _
    refine XS.iloadN X0.here hx rfl (hb hby at_0) rfl ?_
    show Steps p.tables e below (s₁.setTop (mkF m 1 #[.val (.int p0), .val (.int p1), .val (.int p2), .val (.int p3), .val (.int p4), .unset, .unset, .unset, .unset, .unset, .unset, .unset, .unset, .unset, .unset, .unset, .unset, .unset, .unset, .unset, .unset, .unset, .unset, .unset] [(.int p1)])) _
    refine XS.bipush X0.here hx rfl (hb hby at_1) ?_
    show Steps p.tables e below (s₁.setTop (mkF m 3 #[.val (.int p0), .val (.int p1), .val (.int p2), .val (.int p3), .val (.int p4), .unset, .unset, .unset, .unset, .unset, .unset, .unset, .unset, .unset, .unset, .unset, .unset, .unset, .unset, .unset, .unset, .unset, .unset, .unset] [(.int (31 : Int32)), (.int p1)])) _
    refine XS.iand X0.here hx rfl (hb hby at_3) rfl ?_
    show Steps p.tables e below (s₁.setTop (mkF m 4 #[.val (.int p0), .val (.int p1), .val (.int p2), .val (.int p3), .val (.int p4), .unset, .unset, .unset, .unset, .unset, .unset, .unset, .unset, .unset, .unset, .unset, .unset, .unset, .unset, .unset, .unset, .unset, .unset, .unset] [(.int (p1 &&& (31 : Int32)))])) _
    rw [hv3]
    show Steps p.tables e below (s₁.setTop (mkF m 4 #[.val (.int p0), .val (.int p1), .val (.int p2), .val (.int p3), .val (.int p4), .unset, .unset, .unset, .unset, .unset, .unset, .unset, .unset, .unset, .unset, .unset, .unset, .unset, .unset, .unset, .unset, .unset, .unset, .unset] [(.int ki)])) _
    refine XS.istore X0.here hx rfl (hb hby at_4) rfl (l' := #[.val (.int p0), .val (.int p1), .val (.int p2), .val (.int p3), .val (.int p4), .val (.int ki), .unset, .unset, .unset, .unset, .unset, .unset, .unset, .unset, .unset, .unset, .unset, .unset, .unset, .unset, .unset, .unset, .unset, .unset]) rfl ?_
    show Steps p.tables e below (s₁.setTop (mkF m 6 #[.val (.int p0), .val (.int p1), .val (.int p2), .val (.int p3), .val (.int p4), .val (.int ki), .unset, .unset, .unset, .unset, .unset, .unset, .unset, .unset, .unset, .unset, .unset, .unset, .unset, .unset, .unset, .unset, .unset, .unset] [])) _
    refine XS.iloadN X0.here hx rfl (hb hby at_6) rfl ?_
    show Steps p.tables e below (s₁.setTop (mkF m 7 #[.val (.int p0), .val (.int p1), .val (.int p2), .val (.int p3), .val (.int p4), .val (.int ki), .unset, .unset, .unset, .unset, .unset, .unset, .unset, .unset, .unset, .unset, .unset, .unset, .unset, .unset, .unset, .unset, .unset, .unset] [(.int p2)])) _
    refine X0.ldcInt hx hown0 (mvT hZ0 (hw _ (List.mem_of_getElem? (i := 0) rfl))) (g := (mkF m 7 #[.val (.int p0), .val (.int p1), .val (.int p2), .val (.int p3), .val (.int p4), .val (.int ki), .unset, .unset, .unset, .unset, .unset, .unset, .unset, .unset, .unset, .unset, .unset, .unset, .unset, .unset, .unset, .unset, .unset, .unset] [(.int p2)])) rfl (hb hby at_7) _ ?_
    show Steps p.tables e below (s₁.setTop (mkF m 9 #[.val (.int p0), .val (.int p1), .val (.int p2), .val (.int p3), .val (.int p4), .val (.int ki), .unset, .unset, .unset, .unset, .unset, .unset, .unset, .unset, .unset, .unset, .unset, .unset, .unset, .unset, .unset, .unset, .unset, .unset] [(.int (2147483647 : Int32)), (.int p2)])) _
    refine XS.iand X0.here hx rfl (hb hby at_9) rfl ?_
    show Steps p.tables e below (s₁.setTop (mkF m 10 #[.val (.int p0), .val (.int p1), .val (.int p2), .val (.int p3), .val (.int p4), .val (.int ki), .unset, .unset, .unset, .unset, .unset, .unset, .unset, .unset, .unset, .unset, .unset, .unset, .unset, .unset, .unset, .unset, .unset, .unset] [(.int (p2 &&& (2147483647 : Int32)))])) _
    refine XS.bipush X0.here hx rfl (hb hby at_10) ?_
    show Steps p.tables e below (s₁.setTop (mkF m 12 #[.val (.int p0), .val (.int p1), .val (.int p2), .val (.int p3), .val (.int p4), .val (.int ki), .unset, .unset, .unset, .unset, .unset, .unset, .unset, .unset, .unset, .unset, .unset, .unset, .unset, .unset, .unset, .unset, .unset, .unset] [(.int (9 : Int32)), (.int (p2 &&& (2147483647 : Int32)))])) _
    refine iremM (g := (mkF m 12 #[.val (.int p0), .val (.int p1), .val (.int p2), .val (.int p3), .val (.int p4), .val (.int ki), .unset, .unset, .unset, .unset, .unset, .unset, .unset, .unset, .unset, .unset, .unset, .unset, .unset, .unset, .unset, .unset, .unset, .unset] [(.int (9 : Int32)), (.int (p2 &&& (2147483647 : Int32)))])) X0 hx rfl (hb hby at_12) rfl (by decide) ?_
    show Steps p.tables e below (s₁.setTop (mkF m 13 #[.val (.int p0), .val (.int p1), .val (.int p2), .val (.int p3), .val (.int p4), .val (.int ki), .unset, .unset, .unset, .unset, .unset, .unset, .unset, .unset, .unset, .unset, .unset, .unset, .unset, .unset, .unset, .unset, .unset, .unset] [(.int ((p2 &&& (2147483647 : Int32)) % (9 : Int32)))])) _
    rw [hv12]
    show Steps p.tables e below (s₁.setTop (mkF m 13 #[.val (.int p0), .val (.int p1), .val (.int p2), .val (.int p3), .val (.int p4), .val (.int ki), .unset, .unset, .unset, .unset, .unset, .unset, .unset, .unset, .unset, .unset, .unset, .unset, .unset, .unset, .unset, .unset, .unset, .unset] [(.int j)])) _
    refine XS.istore X0.here hx rfl (hb hby at_13) rfl (l' := #[.val (.int p0), .val (.int p1), .val (.int p2), .val (.int p3), .val (.int p4), .val (.int ki), .val (.int j), .unset, .unset, .unset, .unset, .unset, .unset, .unset, .unset, .unset, .unset, .unset, .unset, .unset, .unset, .unset, .unset, .unset]) rfl ?_
    show Steps p.tables e below (s₁.setTop (mkF m 15 #[.val (.int p0), .val (.int p1), .val (.int p2), .val (.int p3), .val (.int p4), .val (.int ki), .val (.int j), .unset, .unset, .unset, .unset, .unset, .unset, .unset, .unset, .unset, .unset, .unset, .unset, .unset, .unset, .unset, .unset, .unset] [])) _
    refine XS.iloadN X0.here hx rfl (hb hby at_15) rfl ?_
    show Steps p.tables e below (s₁.setTop (mkF m 16 #[.val (.int p0), .val (.int p1), .val (.int p2), .val (.int p3), .val (.int p4), .val (.int ki), .val (.int j), .unset, .unset, .unset, .unset, .unset, .unset, .unset, .unset, .unset, .unset, .unset, .unset, .unset, .unset, .unset, .unset, .unset] [(.int p3)])) _
    refine XS.bipush X0.here hx rfl (hb hby at_16) ?_
    show Steps p.tables e below (s₁.setTop (mkF m 18 #[.val (.int p0), .val (.int p1), .val (.int p2), .val (.int p3), .val (.int p4), .val (.int ki), .val (.int j), .unset, .unset, .unset, .unset, .unset, .unset, .unset, .unset, .unset, .unset, .unset, .unset, .unset, .unset, .unset, .unset, .unset] [(.int (15 : Int32)), (.int p3)])) _
    refine XS.iand X0.here hx rfl (hb hby at_18) rfl ?_
    show Steps p.tables e below (s₁.setTop (mkF m 19 #[.val (.int p0), .val (.int p1), .val (.int p2), .val (.int p3), .val (.int p4), .val (.int ki), .val (.int j), .unset, .unset, .unset, .unset, .unset, .unset, .unset, .unset, .unset, .unset, .unset, .unset, .unset, .unset, .unset, .unset, .unset] [(.int (p3 &&& (15 : Int32)))])) _
    rw [hv18]
    show Steps p.tables e below (s₁.setTop (mkF m 19 #[.val (.int p0), .val (.int p1), .val (.int p2), .val (.int p3), .val (.int p4), .val (.int ki), .val (.int j), .unset, .unset, .unset, .unset, .unset, .unset, .unset, .unset, .unset, .unset, .unset, .unset, .unset, .unset, .unset, .unset, .unset] [(.int ee)])) _
    refine XS.istore X0.here hx rfl (hb hby at_19) rfl (l' := #[.val (.int p0), .val (.int p1), .val (.int p2), .val (.int p3), .val (.int p4), .val (.int ki), .val (.int j), .val (.int ee), .unset, .unset, .unset, .unset, .unset, .unset, .unset, .unset, .unset, .unset, .unset, .unset, .unset, .unset, .unset, .unset]) rfl ?_
    show Steps p.tables e below (s₁.setTop (mkF m 21 #[.val (.int p0), .val (.int p1), .val (.int p2), .val (.int p3), .val (.int p4), .val (.int ki), .val (.int j), .val (.int ee), .unset, .unset, .unset, .unset, .unset, .unset, .unset, .unset, .unset, .unset, .unset, .unset, .unset, .unset, .unset, .unset] [])) _
    refine XS.iload X0.here hx rfl (hb hby at_21) rfl ?_
    show Steps p.tables e below (s₁.setTop (mkF m 23 #[.val (.int p0), .val (.int p1), .val (.int p2), .val (.int p3), .val (.int p4), .val (.int ki), .val (.int j), .val (.int ee), .unset, .unset, .unset, .unset, .unset, .unset, .unset, .unset, .unset, .unset, .unset, .unset, .unset, .unset, .unset, .unset] [(.int ki)])) _
    refine XS.i2dS X0.here hx rfl (hb hby at_23) rfl (v := (FP.i2d ki)) rfl ?_
    show Steps p.tables e below (s₁.setTop (mkF m 24 #[.val (.int p0), .val (.int p1), .val (.int p2), .val (.int p3), .val (.int p4), .val (.int ki), .val (.int j), .val (.int ee), .unset, .unset, .unset, .unset, .unset, .unset, .unset, .unset, .unset, .unset, .unset, .unset, .unset, .unset, .unset, .unset] [(.double (FP.i2d ki))])) _
    refine X0.ldc2DoubleC hx hown0 (mvT hZ0 (hw _ (List.mem_of_getElem? (i := 1) rfl))) (g := (mkF m 24 #[.val (.int p0), .val (.int p1), .val (.int p2), .val (.int p3), .val (.int p4), .val (.int ki), .val (.int j), .val (.int ee), .unset, .unset, .unset, .unset, .unset, .unset, .unset, .unset, .unset, .unset, .unset, .unset, .unset, .unset, .unset, .unset] [(.double (FP.i2d ki))])) rfl (hb hby at_24) _ ?_
    show Steps p.tables e below (s₁.setTop (mkF m 27 #[.val (.int p0), .val (.int p1), .val (.int p2), .val (.int p3), .val (.int p4), .val (.int ki), .val (.int j), .val (.int ee), .unset, .unset, .unset, .unset, .unset, .unset, .unset, .unset, .unset, .unset, .unset, .unset, .unset, .unset, .unset, .unset] [(.double (4616189618054758400 : UInt64)), (.double (FP.i2d ki))])) _
    refine XS.ddivS X0.here hx rfl (hb hby at_27) rfl nn27 (v := aa) hq27 ?_
    show Steps p.tables e below (s₁.setTop (mkF m 28 #[.val (.int p0), .val (.int p1), .val (.int p2), .val (.int p3), .val (.int p4), .val (.int ki), .val (.int j), .val (.int ee), .unset, .unset, .unset, .unset, .unset, .unset, .unset, .unset, .unset, .unset, .unset, .unset, .unset, .unset, .unset, .unset] [(.double aa)])) _
    refine XS.dstore X0.here hx rfl (hb hby at_28) rfl (l' := #[.val (.int p0), .val (.int p1), .val (.int p2), .val (.int p3), .val (.int p4), .val (.int ki), .val (.int j), .val (.int ee), .val (.double aa), .second, .unset, .unset, .unset, .unset, .unset, .unset, .unset, .unset, .unset, .unset, .unset, .unset, .unset, .unset]) rfl ?_
    show Steps p.tables e below (s₁.setTop (mkF m 30 #[.val (.int p0), .val (.int p1), .val (.int p2), .val (.int p3), .val (.int p4), .val (.int ki), .val (.int j), .val (.int ee), .val (.double aa), .second, .unset, .unset, .unset, .unset, .unset, .unset, .unset, .unset, .unset, .unset, .unset, .unset, .unset, .unset] [])) _
    refine XS.iload X0.here hx rfl (hb hby at_30) rfl ?_
    show Steps p.tables e below (s₁.setTop (mkF m 32 #[.val (.int p0), .val (.int p1), .val (.int p2), .val (.int p3), .val (.int p4), .val (.int ki), .val (.int j), .val (.int ee), .val (.double aa), .second, .unset, .unset, .unset, .unset, .unset, .unset, .unset, .unset, .unset, .unset, .unset, .unset, .unset, .unset] [(.int j)])) _
    refine XS.i2dS X0.here hx rfl (hb hby at_32) rfl (v := (FP.i2d j)) rfl ?_
    show Steps p.tables e below (s₁.setTop (mkF m 33 #[.val (.int p0), .val (.int p1), .val (.int p2), .val (.int p3), .val (.int p4), .val (.int ki), .val (.int j), .val (.int ee), .val (.double aa), .second, .unset, .unset, .unset, .unset, .unset, .unset, .unset, .unset, .unset, .unset, .unset, .unset, .unset, .unset] [(.double (FP.i2d j))])) _
    refine X0.ldc2DoubleC hx hown0 (mvT hZ0 (hw _ (List.mem_of_getElem? (i := 2) rfl))) (g := (mkF m 33 #[.val (.int p0), .val (.int p1), .val (.int p2), .val (.int p3), .val (.int p4), .val (.int ki), .val (.int j), .val (.int ee), .val (.double aa), .second, .unset, .unset, .unset, .unset, .unset, .unset, .unset, .unset, .unset, .unset, .unset, .unset, .unset, .unset] [(.double (FP.i2d j))])) rfl (hb hby at_33) _ ?_
    show Steps p.tables e below (s₁.setTop (mkF m 36 #[.val (.int p0), .val (.int p1), .val (.int p2), .val (.int p3), .val (.int p4), .val (.int ki), .val (.int j), .val (.int ee), .val (.double aa), .second, .unset, .unset, .unset, .unset, .unset, .unset, .unset, .unset, .unset, .unset, .unset, .unset, .unset, .unset] [(.double (4620693217682128896 : UInt64)), (.double (FP.i2d j))])) _
    refine XS.ddivS X0.here hx rfl (hb hby at_36) rfl nn36 (v := bb) hq36 ?_
    show Steps p.tables e below (s₁.setTop (mkF m 37 #[.val (.int p0), .val (.int p1), .val (.int p2), .val (.int p3), .val (.int p4), .val (.int ki), .val (.int j), .val (.int ee), .val (.double aa), .second, .unset, .unset, .unset, .unset, .unset, .unset, .unset, .unset, .unset, .unset, .unset, .unset, .unset, .unset] [(.double bb)])) _
    refine XS.dstore X0.here hx rfl (hb hby at_37) rfl (l' := #[.val (.int p0), .val (.int p1), .val (.int p2), .val (.int p3), .val (.int p4), .val (.int ki), .val (.int j), .val (.int ee), .val (.double aa), .second, .val (.double bb), .second, .unset, .unset, .unset, .unset, .unset, .unset, .unset, .unset, .unset, .unset, .unset, .unset]) rfl ?_
    show Steps p.tables e below (s₁.setTop (mkF m 39 #[.val (.int p0), .val (.int p1), .val (.int p2), .val (.int p3), .val (.int p4), .val (.int ki), .val (.int j), .val (.int ee), .val (.double aa), .second, .val (.double bb), .second, .unset, .unset, .unset, .unset, .unset, .unset, .unset, .unset, .unset, .unset, .unset, .unset] [])) _
    refine XS.lconst X0.here hx rfl (hb hby at_39) ?_
    show Steps p.tables e below (s₁.setTop (mkF m 40 #[.val (.int p0), .val (.int p1), .val (.int p2), .val (.int p3), .val (.int p4), .val (.int ki), .val (.int j), .val (.int ee), .val (.double aa), .second, .val (.double bb), .second, .unset, .unset, .unset, .unset, .unset, .unset, .unset, .unset, .unset, .unset, .unset, .unset] [(.long (1 : Int64))])) _
    refine XS.iload X0.here hx rfl (hb hby at_40) rfl ?_
    show Steps p.tables e below (s₁.setTop (mkF m 42 #[.val (.int p0), .val (.int p1), .val (.int p2), .val (.int p3), .val (.int p4), .val (.int ki), .val (.int j), .val (.int ee), .val (.double aa), .second, .val (.double bb), .second, .unset, .unset, .unset, .unset, .unset, .unset, .unset, .unset, .unset, .unset, .unset, .unset] [(.int ee), (.long (1 : Int64))])) _
    refine XS.lshl X0.here hx rfl (hb hby at_42) rfl ?_
    show Steps p.tables e below (s₁.setTop (mkF m 43 #[.val (.int p0), .val (.int p1), .val (.int p2), .val (.int p3), .val (.int p4), .val (.int ki), .val (.int j), .val (.int ee), .val (.double aa), .second, .val (.double bb), .second, .unset, .unset, .unset, .unset, .unset, .unset, .unset, .unset, .unset, .unset, .unset, .unset] [(.long ((1 : Int64) <<< (ee &&& 0x3f).toInt64))])) _
    rw [hv42]
    show Steps p.tables e below (s₁.setTop (mkF m 43 #[.val (.int p0), .val (.int p1), .val (.int p2), .val (.int p3), .val (.int p4), .val (.int ki), .val (.int j), .val (.int ee), .val (.double aa), .second, .val (.double bb), .second, .unset, .unset, .unset, .unset, .unset, .unset, .unset, .unset, .unset, .unset, .unset, .unset] [(.long sc)])) _
    refine XS.lstore X0.here hx rfl (hb hby at_43) rfl (l' := #[.val (.int p0), .val (.int p1), .val (.int p2), .val (.int p3), .val (.int p4), .val (.int ki), .val (.int j), .val (.int ee), .val (.double aa), .second, .val (.double bb), .second, .val (.long sc), .second, .unset, .unset, .unset, .unset, .unset, .unset, .unset, .unset, .unset, .unset]) rfl ?_
    show Steps p.tables e below (s₁.setTop (mkF m 45 #[.val (.int p0), .val (.int p1), .val (.int p2), .val (.int p3), .val (.int p4), .val (.int ki), .val (.int j), .val (.int ee), .val (.double aa), .second, .val (.double bb), .second, .val (.long sc), .second, .unset, .unset, .unset, .unset, .unset, .unset, .unset, .unset, .unset, .unset] [])) _
    refine XS.lload X0.here hx rfl (hb hby at_45) rfl ?_
    show Steps p.tables e below (s₁.setTop (mkF m 47 #[.val (.int p0), .val (.int p1), .val (.int p2), .val (.int p3), .val (.int p4), .val (.int ki), .val (.int j), .val (.int ee), .val (.double aa), .second, .val (.double bb), .second, .val (.long sc), .second, .unset, .unset, .unset, .unset, .unset, .unset, .unset, .unset, .unset, .unset] [(.long sc)])) _
    refine XS.l2dS X0.here hx rfl (hb hby at_47) rfl (v := (FP.l2d sc)) rfl ?_
    show Steps p.tables e below (s₁.setTop (mkF m 48 #[.val (.int p0), .val (.int p1), .val (.int p2), .val (.int p3), .val (.int p4), .val (.int ki), .val (.int j), .val (.int ee), .val (.double aa), .second, .val (.double bb), .second, .val (.long sc), .second, .unset, .unset, .unset, .unset, .unset, .unset, .unset, .unset, .unset, .unset] [(.double (FP.l2d sc))])) _
    refine X0.ldc2DoubleC hx hown0 (mvT hZ0 (hw _ (List.mem_of_getElem? (i := 3) rfl))) (g := (mkF m 48 #[.val (.int p0), .val (.int p1), .val (.int p2), .val (.int p3), .val (.int p4), .val (.int ki), .val (.int j), .val (.int ee), .val (.double aa), .second, .val (.double bb), .second, .val (.long sc), .second, .unset, .unset, .unset, .unset, .unset, .unset, .unset, .unset, .unset, .unset] [(.double (FP.l2d sc))])) rfl (hb hby at_48) _ ?_
    show Steps p.tables e below (s₁.setTop (mkF m 51 #[.val (.int p0), .val (.int p1), .val (.int p2), .val (.int p3), .val (.int p4), .val (.int ki), .val (.int j), .val (.int ee), .val (.double aa), .second, .val (.double bb), .second, .val (.long sc), .second, .unset, .unset, .unset, .unset, .unset, .unset, .unset, .unset, .unset, .unset] [(.double (4643211215818981376 : UInt64)), (.double (FP.l2d sc))])) _
    refine XS.ddivS X0.here hx rfl (hb hby at_51) rfl nn51 (v := av) hq51 ?_
    show Steps p.tables e below (s₁.setTop (mkF m 52 #[.val (.int p0), .val (.int p1), .val (.int p2), .val (.int p3), .val (.int p4), .val (.int ki), .val (.int j), .val (.int ee), .val (.double aa), .second, .val (.double bb), .second, .val (.long sc), .second, .unset, .unset, .unset, .unset, .unset, .unset, .unset, .unset, .unset, .unset] [(.double av)])) _
    refine XS.dstore X0.here hx rfl (hb hby at_52) rfl (l' := #[.val (.int p0), .val (.int p1), .val (.int p2), .val (.int p3), .val (.int p4), .val (.int ki), .val (.int j), .val (.int ee), .val (.double aa), .second, .val (.double bb), .second, .val (.long sc), .second, .val (.double av), .second, .unset, .unset, .unset, .unset, .unset, .unset, .unset, .unset]) rfl ?_
    show Steps p.tables e below (s₁.setTop (mkF m 54 #[.val (.int p0), .val (.int p1), .val (.int p2), .val (.int p3), .val (.int p4), .val (.int ki), .val (.int j), .val (.int ee), .val (.double aa), .second, .val (.double bb), .second, .val (.long sc), .second, .val (.double av), .second, .unset, .unset, .unset, .unset, .unset, .unset, .unset, .unset] [])) _
    refine XS.iload X0.here hx rfl (hb hby at_54) rfl ?_
    show Steps p.tables e below (s₁.setTop (mkF m 56 #[.val (.int p0), .val (.int p1), .val (.int p2), .val (.int p3), .val (.int p4), .val (.int ki), .val (.int j), .val (.int ee), .val (.double aa), .second, .val (.double bb), .second, .val (.long sc), .second, .val (.double av), .second, .unset, .unset, .unset, .unset, .unset, .unset, .unset, .unset] [(.int p4)])) _
    refine XS.iconst X0.here hx rfl (hb hby at_56) ?_
    show Steps p.tables e below (s₁.setTop (mkF m 57 #[.val (.int p0), .val (.int p1), .val (.int p2), .val (.int p3), .val (.int p4), .val (.int ki), .val (.int j), .val (.int ee), .val (.double aa), .second, .val (.double bb), .second, .val (.long sc), .second, .val (.double av), .second, .unset, .unset, .unset, .unset, .unset, .unset, .unset, .unset] [(.int (1 : Int32)), (.int p4)])) _
    refine XS.iand X0.here hx rfl (hb hby at_57) rfl ?_
    show Steps p.tables e below (s₁.setTop (mkF m 58 #[.val (.int p0), .val (.int p1), .val (.int p2), .val (.int p3), .val (.int p4), .val (.int ki), .val (.int j), .val (.int ee), .val (.double aa), .second, .val (.double bb), .second, .val (.long sc), .second, .val (.double av), .second, .unset, .unset, .unset, .unset, .unset, .unset, .unset, .unset] [(.int (p4 &&& (1 : Int32)))])) _
    refine XS.ifNo X0.here hx rfl (hb hby at_58) rfl ((if0 _ _).trans (feq hc58).1) ?_
    show Steps p.tables e below (s₁.setTop (mkF m 61 #[.val (.int p0), .val (.int p1), .val (.int p2), .val (.int p3), .val (.int p4), .val (.int ki), .val (.int j), .val (.int ee), .val (.double aa), .second, .val (.double bb), .second, .val (.long sc), .second, .val (.double av), .second, .unset, .unset, .unset, .unset, .unset, .unset, .unset, .unset] [])) _
    refine st1 _ ?_
    show Steps p.tables e below (T1.setTop (mkF m 64 #[.val (.int p0), .val (.int p1), .val (.int p2), .val (.int p3), .val (.int p4), .val (.int ki), .val (.int j), .val (.int ee), .val (.double aa), .second, .val (.double bb), .second, .val (.long sc), .second, .val (.double av), .second, .unset, .unset, .unset, .unset, .unset, .unset, .unset, .unset] [(.ref m1)])) _
    refine XS.goto X1.here hx rfl (pc0 := 64) (pc' := 70) rfl (hb hby at_64) (by decide) (by decide) ?_
    show Steps p.tables e below (T1.setTop (mkF m 70 #[.val (.int p0), .val (.int p1), .val (.int p2), .val (.int p3), .val (.int p4), .val (.int ki), .val (.int j), .val (.int ee), .val (.double aa), .second, .val (.double bb), .second, .val (.long sc), .second, .val (.double av), .second, .unset, .unset, .unset, .unset, .unset, .unset, .unset, .unset] [(.ref m1)])) _
    refine XS.astore X1.here hx rfl (hb hby at_70) rfl rfl (l' := #[.val (.int p0), .val (.int p1), .val (.int p2), .val (.int p3), .val (.int p4), .val (.int ki), .val (.int j), .val (.int ee), .val (.double aa), .second, .val (.double bb), .second, .val (.long sc), .second, .val (.double av), .second, .val (.ref m1), .unset, .unset, .unset, .unset, .unset, .unset, .unset]) rfl ?_
    show Steps p.tables e below (T1.setTop (mkF m 72 #[.val (.int p0), .val (.int p1), .val (.int p2), .val (.int p3), .val (.int p4), .val (.int ki), .val (.int j), .val (.int ee), .val (.double aa), .second, .val (.double bb), .second, .val (.long sc), .second, .val (.double av), .second, .val (.ref m1), .unset, .unset, .unset, .unset, .unset, .unset, .unset] [])) _
    refine st2 _ ?_
    show Steps p.tables e below (T2.setTop (mkF m 75 #[.val (.int p0), .val (.int p1), .val (.int p2), .val (.int p3), .val (.int p4), .val (.int ki), .val (.int j), .val (.int ee), .val (.double aa), .second, .val (.double bb), .second, .val (.long sc), .second, .val (.double av), .second, .val (.ref m1), .unset, .unset, .unset, .unset, .unset, .unset, .unset] [(.ref b2)])) _
    refine XS.dup X2.here hx rfl (hb hby at_75) rfl rfl ?_
    show Steps p.tables e below (T2.setTop (mkF m 76 #[.val (.int p0), .val (.int p1), .val (.int p2), .val (.int p3), .val (.int p4), .val (.int ki), .val (.int j), .val (.int ee), .val (.double aa), .second, .val (.double bb), .second, .val (.long sc), .second, .val (.double av), .second, .val (.ref m1), .unset, .unset, .unset, .unset, .unset, .unset, .unset] [(.ref b2), (.ref b2)])) _
    refine XS.dload X2.here hx rfl (hb hby at_76) rfl ?_
    show Steps p.tables e below (T2.setTop (mkF m 78 #[.val (.int p0), .val (.int p1), .val (.int p2), .val (.int p3), .val (.int p4), .val (.int ki), .val (.int j), .val (.int ee), .val (.double aa), .second, .val (.double bb), .second, .val (.long sc), .second, .val (.double av), .second, .val (.ref m1), .unset, .unset, .unset, .unset, .unset, .unset, .unset] [(.double aa), (.ref b2), (.ref b2)])) _
    refine XS.dload X2.here hx rfl (hb hby at_78) rfl ?_
    show Steps p.tables e below (T2.setTop (mkF m 80 #[.val (.int p0), .val (.int p1), .val (.int p2), .val (.int p3), .val (.int p4), .val (.int ki), .val (.int j), .val (.int ee), .val (.double aa), .second, .val (.double bb), .second, .val (.long sc), .second, .val (.double av), .second, .val (.ref m1), .unset, .unset, .unset, .unset, .unset, .unset, .unset] [(.double bb), (.double aa), (.ref b2), (.ref b2)])) _
    refine XS.aload X2.here hx rfl (hb hby at_80) rfl rfl ?_
    show Steps p.tables e below (T2.setTop (mkF m 82 #[.val (.int p0), .val (.int p1), .val (.int p2), .val (.int p3), .val (.int p4), .val (.int ki), .val (.int j), .val (.int ee), .val (.double aa), .second, .val (.double bb), .second, .val (.long sc), .second, .val (.double av), .second, .val (.ref m1), .unset, .unset, .unset, .unset, .unset, .unset, .unset] [(.ref m1), (.double bb), (.double aa), (.ref b2), (.ref b2)])) _
    refine st3.trans ?_
    show Steps p.tables e below (T3.setTop (mkF m 85 #[.val (.int p0), .val (.int p1), .val (.int p2), .val (.int p3), .val (.int p4), .val (.int ki), .val (.int j), .val (.int ee), .val (.double aa), .second, .val (.double bb), .second, .val (.long sc), .second, .val (.double av), .second, .val (.ref m1), .unset, .unset, .unset, .unset, .unset, .unset, .unset] [(.ref b2)])) _
    refine XS.astore X3.here hx rfl (hb hby at_85) rfl rfl (l' := #[.val (.int p0), .val (.int p1), .val (.int p2), .val (.int p3), .val (.int p4), .val (.int ki), .val (.int j), .val (.int ee), .val (.double aa), .second, .val (.double bb), .second, .val (.long sc), .second, .val (.double av), .second, .val (.ref m1), .val (.ref b2), .unset, .unset, .unset, .unset, .unset, .unset]) rfl ?_
    show Steps p.tables e below (T3.setTop (mkF m 87 #[.val (.int p0), .val (.int p1), .val (.int p2), .val (.int p3), .val (.int p4), .val (.int ki), .val (.int j), .val (.int ee), .val (.double aa), .second, .val (.double bb), .second, .val (.long sc), .second, .val (.double av), .second, .val (.ref m1), .val (.ref b2), .unset, .unset, .unset, .unset, .unset, .unset] [])) _
    refine XS.aload X3.here hx rfl (hb hby at_87) rfl rfl ?_
    show Steps p.tables e below (T3.setTop (mkF m 89 #[.val (.int p0), .val (.int p1), .val (.int p2), .val (.int p3), .val (.int p4), .val (.int ki), .val (.int j), .val (.int ee), .val (.double aa), .second, .val (.double bb), .second, .val (.long sc), .second, .val (.double av), .second, .val (.ref m1), .val (.ref b2), .unset, .unset, .unset, .unset, .unset, .unset] [(.ref b2)])) _
    refine XS.iloadN X3.here hx rfl (hb hby at_89) rfl ?_
    show Steps p.tables e below (T3.setTop (mkF m 90 #[.val (.int p0), .val (.int p1), .val (.int p2), .val (.int p3), .val (.int p4), .val (.int ki), .val (.int j), .val (.int ee), .val (.double aa), .second, .val (.double bb), .second, .val (.long sc), .second, .val (.double av), .second, .val (.ref m1), .val (.ref b2), .unset, .unset, .unset, .unset, .unset, .unset] [(.int p0), (.ref b2)])) _
    refine XS.dload X3.here hx rfl (hb hby at_90) rfl ?_
    show Steps p.tables e below (T3.setTop (mkF m 92 #[.val (.int p0), .val (.int p1), .val (.int p2), .val (.int p3), .val (.int p4), .val (.int ki), .val (.int j), .val (.int ee), .val (.double aa), .second, .val (.double bb), .second, .val (.long sc), .second, .val (.double av), .second, .val (.ref m1), .val (.ref b2), .unset, .unset, .unset, .unset, .unset, .unset] [(.double av), (.int p0), (.ref b2)])) _
    refine st8.trans ?_
    show Steps p.tables e below (T8.setTop (mkF m 95 #[.val (.int p0), .val (.int p1), .val (.int p2), .val (.int p3), .val (.int p4), .val (.int ki), .val (.int j), .val (.int ee), .val (.double aa), .second, .val (.double bb), .second, .val (.long sc), .second, .val (.double av), .second, .val (.ref m1), .val (.ref b2), .unset, .unset, .unset, .unset, .unset, .unset] [(.double (FP.dmul aa (FP.dadd (FP.dsub (4607182418800017408 : UInt64) bb) (FP.ddiv (FP.dmul bb (FP.i2d p0)) av))))])) _
    refine XS.dstore X8.here hx rfl (hb hby at_95) rfl (l' := #[.val (.int p0), .val (.int p1), .val (.int p2), .val (.int p3), .val (.int p4), .val (.int ki), .val (.int j), .val (.int ee), .val (.double aa), .second, .val (.double bb), .second, .val (.long sc), .second, .val (.double av), .second, .val (.ref m1), .val (.ref b2), .val (.double (FP.dmul aa (FP.dadd (FP.dsub (4607182418800017408 : UInt64) bb) (FP.ddiv (FP.dmul bb (FP.i2d p0)) av)))), .second, .unset, .unset, .unset, .unset]) rfl ?_
    show Steps p.tables e below (T8.setTop (mkF m 97 #[.val (.int p0), .val (.int p1), .val (.int p2), .val (.int p3), .val (.int p4), .val (.int ki), .val (.int j), .val (.int ee), .val (.double aa), .second, .val (.double bb), .second, .val (.long sc), .second, .val (.double av), .second, .val (.ref m1), .val (.ref b2), .val (.double (FP.dmul aa (FP.dadd (FP.dsub (4607182418800017408 : UInt64) bb) (FP.ddiv (FP.dmul bb (FP.i2d p0)) av)))), .second, .unset, .unset, .unset, .unset] [])) _
    refine XS.iload X8.here hx rfl (hb hby at_97) rfl ?_
    show Steps p.tables e below (T8.setTop (mkF m 99 #[.val (.int p0), .val (.int p1), .val (.int p2), .val (.int p3), .val (.int p4), .val (.int ki), .val (.int j), .val (.int ee), .val (.double aa), .second, .val (.double bb), .second, .val (.long sc), .second, .val (.double av), .second, .val (.ref m1), .val (.ref b2), .val (.double (FP.dmul aa (FP.dadd (FP.dsub (4607182418800017408 : UInt64) bb) (FP.ddiv (FP.dmul bb (FP.i2d p0)) av)))), .second, .unset, .unset, .unset, .unset] [(.int ki)])) _
    refine XS.i2l X8.here hx rfl (hb hby at_99) rfl ?_
    show Steps p.tables e below (T8.setTop (mkF m 100 #[.val (.int p0), .val (.int p1), .val (.int p2), .val (.int p3), .val (.int p4), .val (.int ki), .val (.int j), .val (.int ee), .val (.double aa), .second, .val (.double bb), .second, .val (.long sc), .second, .val (.double av), .second, .val (.ref m1), .val (.ref b2), .val (.double (FP.dmul aa (FP.dadd (FP.dsub (4607182418800017408 : UInt64) bb) (FP.ddiv (FP.dmul bb (FP.i2d p0)) av)))), .second, .unset, .unset, .unset, .unset] [(.long (ki.toInt64))])) _
    refine X8.ldc2Long hx hown3 (mvT hZ3 (hw _ (List.mem_of_getElem? (i := 55) rfl))) (g := (mkF m 100 #[.val (.int p0), .val (.int p1), .val (.int p2), .val (.int p3), .val (.int p4), .val (.int ki), .val (.int j), .val (.int ee), .val (.double aa), .second, .val (.double bb), .second, .val (.long sc), .second, .val (.double av), .second, .val (.ref m1), .val (.ref b2), .val (.double (FP.dmul aa (FP.dadd (FP.dsub (4607182418800017408 : UInt64) bb) (FP.ddiv (FP.dmul bb (FP.i2d p0)) av)))), .second, .unset, .unset, .unset, .unset] [(.long (ki.toInt64))])) rfl (hb hby at_100) _ ?_
    show Steps p.tables e below (T8.setTop (mkF m 103 #[.val (.int p0), .val (.int p1), .val (.int p2), .val (.int p3), .val (.int p4), .val (.int ki), .val (.int j), .val (.int ee), .val (.double aa), .second, .val (.double bb), .second, .val (.long sc), .second, .val (.double av), .second, .val (.ref m1), .val (.ref b2), .val (.double (FP.dmul aa (FP.dadd (FP.dsub (4607182418800017408 : UInt64) bb) (FP.ddiv (FP.dmul bb (FP.i2d p0)) av)))), .second, .unset, .unset, .unset, .unset] [(.long (8 : Int64)), (.long (ki.toInt64))])) _
    refine XS.iload X8.here hx rfl (hb hby at_103) rfl ?_
    show Steps p.tables e below (T8.setTop (mkF m 105 #[.val (.int p0), .val (.int p1), .val (.int p2), .val (.int p3), .val (.int p4), .val (.int ki), .val (.int j), .val (.int ee), .val (.double aa), .second, .val (.double bb), .second, .val (.long sc), .second, .val (.double av), .second, .val (.ref m1), .val (.ref b2), .val (.double (FP.dmul aa (FP.dadd (FP.dsub (4607182418800017408 : UInt64) bb) (FP.ddiv (FP.dmul bb (FP.i2d p0)) av)))), .second, .unset, .unset, .unset, .unset] [(.int j), (.long (8 : Int64)), (.long (ki.toInt64))])) _
    refine XS.i2l X8.here hx rfl (hb hby at_105) rfl ?_
    show Steps p.tables e below (T8.setTop (mkF m 106 #[.val (.int p0), .val (.int p1), .val (.int p2), .val (.int p3), .val (.int p4), .val (.int ki), .val (.int j), .val (.int ee), .val (.double aa), .second, .val (.double bb), .second, .val (.long sc), .second, .val (.double av), .second, .val (.ref m1), .val (.ref b2), .val (.double (FP.dmul aa (FP.dadd (FP.dsub (4607182418800017408 : UInt64) bb) (FP.ddiv (FP.dmul bb (FP.i2d p0)) av)))), .second, .unset, .unset, .unset, .unset] [(.long (j.toInt64)), (.long (8 : Int64)), (.long (ki.toInt64))])) _
    refine XS.lsub X8.here hx rfl (hb hby at_106) rfl ?_
    show Steps p.tables e below (T8.setTop (mkF m 107 #[.val (.int p0), .val (.int p1), .val (.int p2), .val (.int p3), .val (.int p4), .val (.int ki), .val (.int j), .val (.int ee), .val (.double aa), .second, .val (.double bb), .second, .val (.long sc), .second, .val (.double av), .second, .val (.ref m1), .val (.ref b2), .val (.double (FP.dmul aa (FP.dadd (FP.dsub (4607182418800017408 : UInt64) bb) (FP.ddiv (FP.dmul bb (FP.i2d p0)) av)))), .second, .unset, .unset, .unset, .unset] [(.long ((8 : Int64) - (j.toInt64))), (.long (ki.toInt64))])) _
    refine XS.lload X8.here hx rfl (hb hby at_107) rfl ?_
    show Steps p.tables e below (T8.setTop (mkF m 109 #[.val (.int p0), .val (.int p1), .val (.int p2), .val (.int p3), .val (.int p4), .val (.int ki), .val (.int j), .val (.int ee), .val (.double aa), .second, .val (.double bb), .second, .val (.long sc), .second, .val (.double av), .second, .val (.ref m1), .val (.ref b2), .val (.double (FP.dmul aa (FP.dadd (FP.dsub (4607182418800017408 : UInt64) bb) (FP.ddiv (FP.dmul bb (FP.i2d p0)) av)))), .second, .unset, .unset, .unset, .unset] [(.long sc), (.long ((8 : Int64) - (j.toInt64))), (.long (ki.toInt64))])) _
    refine XS.lmul X8.here hx rfl (hb hby at_109) rfl ?_
    show Steps p.tables e below (T8.setTop (mkF m 110 #[.val (.int p0), .val (.int p1), .val (.int p2), .val (.int p3), .val (.int p4), .val (.int ki), .val (.int j), .val (.int ee), .val (.double aa), .second, .val (.double bb), .second, .val (.long sc), .second, .val (.double av), .second, .val (.ref m1), .val (.ref b2), .val (.double (FP.dmul aa (FP.dadd (FP.dsub (4607182418800017408 : UInt64) bb) (FP.ddiv (FP.dmul bb (FP.i2d p0)) av)))), .second, .unset, .unset, .unset, .unset] [(.long (((8 : Int64) - (j.toInt64)) * sc)), (.long (ki.toInt64))])) _
    refine X8.ldc2Long hx hown3 (mvT hZ3 (hw _ (List.mem_of_getElem? (i := 56) rfl))) (g := (mkF m 110 #[.val (.int p0), .val (.int p1), .val (.int p2), .val (.int p3), .val (.int p4), .val (.int ki), .val (.int j), .val (.int ee), .val (.double aa), .second, .val (.double bb), .second, .val (.long sc), .second, .val (.double av), .second, .val (.ref m1), .val (.ref b2), .val (.double (FP.dmul aa (FP.dadd (FP.dsub (4607182418800017408 : UInt64) bb) (FP.ddiv (FP.dmul bb (FP.i2d p0)) av)))), .second, .unset, .unset, .unset, .unset] [(.long (((8 : Int64) - (j.toInt64)) * sc)), (.long (ki.toInt64))])) rfl (hb hby at_110) _ ?_
    show Steps p.tables e below (T8.setTop (mkF m 113 #[.val (.int p0), .val (.int p1), .val (.int p2), .val (.int p3), .val (.int p4), .val (.int ki), .val (.int j), .val (.int ee), .val (.double aa), .second, .val (.double bb), .second, .val (.long sc), .second, .val (.double av), .second, .val (.ref m1), .val (.ref b2), .val (.double (FP.dmul aa (FP.dadd (FP.dsub (4607182418800017408 : UInt64) bb) (FP.ddiv (FP.dmul bb (FP.i2d p0)) av)))), .second, .unset, .unset, .unset, .unset] [(.long (256 : Int64)), (.long (((8 : Int64) - (j.toInt64)) * sc)), (.long (ki.toInt64))])) _
    refine XS.iload X8.here hx rfl (hb hby at_113) rfl ?_
    show Steps p.tables e below (T8.setTop (mkF m 115 #[.val (.int p0), .val (.int p1), .val (.int p2), .val (.int p3), .val (.int p4), .val (.int ki), .val (.int j), .val (.int ee), .val (.double aa), .second, .val (.double bb), .second, .val (.long sc), .second, .val (.double av), .second, .val (.ref m1), .val (.ref b2), .val (.double (FP.dmul aa (FP.dadd (FP.dsub (4607182418800017408 : UInt64) bb) (FP.ddiv (FP.dmul bb (FP.i2d p0)) av)))), .second, .unset, .unset, .unset, .unset] [(.int j), (.long (256 : Int64)), (.long (((8 : Int64) - (j.toInt64)) * sc)), (.long (ki.toInt64))])) _
    refine XS.i2l X8.here hx rfl (hb hby at_115) rfl ?_
    show Steps p.tables e below (T8.setTop (mkF m 116 #[.val (.int p0), .val (.int p1), .val (.int p2), .val (.int p3), .val (.int p4), .val (.int ki), .val (.int j), .val (.int ee), .val (.double aa), .second, .val (.double bb), .second, .val (.long sc), .second, .val (.double av), .second, .val (.ref m1), .val (.ref b2), .val (.double (FP.dmul aa (FP.dadd (FP.dsub (4607182418800017408 : UInt64) bb) (FP.ddiv (FP.dmul bb (FP.i2d p0)) av)))), .second, .unset, .unset, .unset, .unset] [(.long (j.toInt64)), (.long (256 : Int64)), (.long (((8 : Int64) - (j.toInt64)) * sc)), (.long (ki.toInt64))])) _
    refine XS.lmul X8.here hx rfl (hb hby at_116) rfl ?_
    show Steps p.tables e below (T8.setTop (mkF m 117 #[.val (.int p0), .val (.int p1), .val (.int p2), .val (.int p3), .val (.int p4), .val (.int ki), .val (.int j), .val (.int ee), .val (.double aa), .second, .val (.double bb), .second, .val (.long sc), .second, .val (.double av), .second, .val (.ref m1), .val (.ref b2), .val (.double (FP.dmul aa (FP.dadd (FP.dsub (4607182418800017408 : UInt64) bb) (FP.ddiv (FP.dmul bb (FP.i2d p0)) av)))), .second, .unset, .unset, .unset, .unset] [(.long ((256 : Int64) * (j.toInt64))), (.long (((8 : Int64) - (j.toInt64)) * sc)), (.long (ki.toInt64))])) _
    refine XS.iloadN X8.here hx rfl (hb hby at_117) rfl ?_
    show Steps p.tables e below (T8.setTop (mkF m 118 #[.val (.int p0), .val (.int p1), .val (.int p2), .val (.int p3), .val (.int p4), .val (.int ki), .val (.int j), .val (.int ee), .val (.double aa), .second, .val (.double bb), .second, .val (.long sc), .second, .val (.double av), .second, .val (.ref m1), .val (.ref b2), .val (.double (FP.dmul aa (FP.dadd (FP.dsub (4607182418800017408 : UInt64) bb) (FP.ddiv (FP.dmul bb (FP.i2d p0)) av)))), .second, .unset, .unset, .unset, .unset] [(.int p0), (.long ((256 : Int64) * (j.toInt64))), (.long (((8 : Int64) - (j.toInt64)) * sc)), (.long (ki.toInt64))])) _
    refine XS.i2l X8.here hx rfl (hb hby at_118) rfl ?_
    show Steps p.tables e below (T8.setTop (mkF m 119 #[.val (.int p0), .val (.int p1), .val (.int p2), .val (.int p3), .val (.int p4), .val (.int ki), .val (.int j), .val (.int ee), .val (.double aa), .second, .val (.double bb), .second, .val (.long sc), .second, .val (.double av), .second, .val (.ref m1), .val (.ref b2), .val (.double (FP.dmul aa (FP.dadd (FP.dsub (4607182418800017408 : UInt64) bb) (FP.ddiv (FP.dmul bb (FP.i2d p0)) av)))), .second, .unset, .unset, .unset, .unset] [(.long (p0.toInt64)), (.long ((256 : Int64) * (j.toInt64))), (.long (((8 : Int64) - (j.toInt64)) * sc)), (.long (ki.toInt64))])) _
    refine XS.lmul X8.here hx rfl (hb hby at_119) rfl ?_
    show Steps p.tables e below (T8.setTop (mkF m 120 #[.val (.int p0), .val (.int p1), .val (.int p2), .val (.int p3), .val (.int p4), .val (.int ki), .val (.int j), .val (.int ee), .val (.double aa), .second, .val (.double bb), .second, .val (.long sc), .second, .val (.double av), .second, .val (.ref m1), .val (.ref b2), .val (.double (FP.dmul aa (FP.dadd (FP.dsub (4607182418800017408 : UInt64) bb) (FP.ddiv (FP.dmul bb (FP.i2d p0)) av)))), .second, .unset, .unset, .unset, .unset] [(.long (((256 : Int64) * (j.toInt64)) * (p0.toInt64))), (.long (((8 : Int64) - (j.toInt64)) * sc)), (.long (ki.toInt64))])) _
    refine XS.ladd X8.here hx rfl (hb hby at_120) rfl ?_
    show Steps p.tables e below (T8.setTop (mkF m 121 #[.val (.int p0), .val (.int p1), .val (.int p2), .val (.int p3), .val (.int p4), .val (.int ki), .val (.int j), .val (.int ee), .val (.double aa), .second, .val (.double bb), .second, .val (.long sc), .second, .val (.double av), .second, .val (.ref m1), .val (.ref b2), .val (.double (FP.dmul aa (FP.dadd (FP.dsub (4607182418800017408 : UInt64) bb) (FP.ddiv (FP.dmul bb (FP.i2d p0)) av)))), .second, .unset, .unset, .unset, .unset] [(.long ((((8 : Int64) - (j.toInt64)) * sc) + (((256 : Int64) * (j.toInt64)) * (p0.toInt64)))), (.long (ki.toInt64))])) _
    refine XS.lmul X8.here hx rfl (hb hby at_121) rfl ?_
    show Steps p.tables e below (T8.setTop (mkF m 122 #[.val (.int p0), .val (.int p1), .val (.int p2), .val (.int p3), .val (.int p4), .val (.int ki), .val (.int j), .val (.int ee), .val (.double aa), .second, .val (.double bb), .second, .val (.long sc), .second, .val (.double av), .second, .val (.ref m1), .val (.ref b2), .val (.double (FP.dmul aa (FP.dadd (FP.dsub (4607182418800017408 : UInt64) bb) (FP.ddiv (FP.dmul bb (FP.i2d p0)) av)))), .second, .unset, .unset, .unset, .unset] [(.long ((ki.toInt64) * ((((8 : Int64) - (j.toInt64)) * sc) + (((256 : Int64) * (j.toInt64)) * (p0.toInt64)))))])) _
    rw [hv121]
    show Steps p.tables e below (T8.setTop (mkF m 122 #[.val (.int p0), .val (.int p1), .val (.int p2), .val (.int p3), .val (.int p4), .val (.int ki), .val (.int j), .val (.int ee), .val (.double aa), .second, .val (.double bb), .second, .val (.long sc), .second, .val (.double av), .second, .val (.ref m1), .val (.ref b2), .val (.double (FP.dmul aa (FP.dadd (FP.dsub (4607182418800017408 : UInt64) bb) (FP.ddiv (FP.dmul bb (FP.i2d p0)) av)))), .second, .unset, .unset, .unset, .unset] [(.long nu)])) _
    refine XS.lstore X8.here hx rfl (hb hby at_122) rfl (l' := #[.val (.int p0), .val (.int p1), .val (.int p2), .val (.int p3), .val (.int p4), .val (.int ki), .val (.int j), .val (.int ee), .val (.double aa), .second, .val (.double bb), .second, .val (.long sc), .second, .val (.double av), .second, .val (.ref m1), .val (.ref b2), .val (.double (FP.dmul aa (FP.dadd (FP.dsub (4607182418800017408 : UInt64) bb) (FP.ddiv (FP.dmul bb (FP.i2d p0)) av)))), .second, .val (.long nu), .second, .unset, .unset]) rfl ?_
    show Steps p.tables e below (T8.setTop (mkF m 124 #[.val (.int p0), .val (.int p1), .val (.int p2), .val (.int p3), .val (.int p4), .val (.int ki), .val (.int j), .val (.int ee), .val (.double aa), .second, .val (.double bb), .second, .val (.long sc), .second, .val (.double av), .second, .val (.ref m1), .val (.ref b2), .val (.double (FP.dmul aa (FP.dadd (FP.dsub (4607182418800017408 : UInt64) bb) (FP.ddiv (FP.dmul bb (FP.i2d p0)) av)))), .second, .val (.long nu), .second, .unset, .unset] [])) _
    refine XS.lload X8.here hx rfl (hb hby at_124) rfl ?_
    show Steps p.tables e below (T8.setTop (mkF m 126 #[.val (.int p0), .val (.int p1), .val (.int p2), .val (.int p3), .val (.int p4), .val (.int ki), .val (.int j), .val (.int ee), .val (.double aa), .second, .val (.double bb), .second, .val (.long sc), .second, .val (.double av), .second, .val (.ref m1), .val (.ref b2), .val (.double (FP.dmul aa (FP.dadd (FP.dsub (4607182418800017408 : UInt64) bb) (FP.ddiv (FP.dmul bb (FP.i2d p0)) av)))), .second, .val (.long nu), .second, .unset, .unset] [(.long nu)])) _
    refine XS.l2dS X8.here hx rfl (hb hby at_126) rfl (v := (FP.l2d nu)) rfl ?_
    show Steps p.tables e below (T8.setTop (mkF m 127 #[.val (.int p0), .val (.int p1), .val (.int p2), .val (.int p3), .val (.int p4), .val (.int ki), .val (.int j), .val (.int ee), .val (.double aa), .second, .val (.double bb), .second, .val (.long sc), .second, .val (.double av), .second, .val (.ref m1), .val (.ref b2), .val (.double (FP.dmul aa (FP.dadd (FP.dsub (4607182418800017408 : UInt64) bb) (FP.ddiv (FP.dmul bb (FP.i2d p0)) av)))), .second, .val (.long nu), .second, .unset, .unset] [(.double (FP.l2d nu))])) _
    refine X8.ldc2Long hx hown3 (mvT hZ3 (hw _ (List.mem_of_getElem? (i := 57) rfl))) (g := (mkF m 127 #[.val (.int p0), .val (.int p1), .val (.int p2), .val (.int p3), .val (.int p4), .val (.int ki), .val (.int j), .val (.int ee), .val (.double aa), .second, .val (.double bb), .second, .val (.long sc), .second, .val (.double av), .second, .val (.ref m1), .val (.ref b2), .val (.double (FP.dmul aa (FP.dadd (FP.dsub (4607182418800017408 : UInt64) bb) (FP.ddiv (FP.dmul bb (FP.i2d p0)) av)))), .second, .val (.long nu), .second, .unset, .unset] [(.double (FP.l2d nu))])) rfl (hb hby at_127) _ ?_
    show Steps p.tables e below (T8.setTop (mkF m 130 #[.val (.int p0), .val (.int p1), .val (.int p2), .val (.int p3), .val (.int p4), .val (.int ki), .val (.int j), .val (.int ee), .val (.double aa), .second, .val (.double bb), .second, .val (.long sc), .second, .val (.double av), .second, .val (.ref m1), .val (.ref b2), .val (.double (FP.dmul aa (FP.dadd (FP.dsub (4607182418800017408 : UInt64) bb) (FP.ddiv (FP.dmul bb (FP.i2d p0)) av)))), .second, .val (.long nu), .second, .unset, .unset] [(.long (32 : Int64)), (.double (FP.l2d nu))])) _
    refine XS.lload X8.here hx rfl (hb hby at_130) rfl ?_
    show Steps p.tables e below (T8.setTop (mkF m 132 #[.val (.int p0), .val (.int p1), .val (.int p2), .val (.int p3), .val (.int p4), .val (.int ki), .val (.int j), .val (.int ee), .val (.double aa), .second, .val (.double bb), .second, .val (.long sc), .second, .val (.double av), .second, .val (.ref m1), .val (.ref b2), .val (.double (FP.dmul aa (FP.dadd (FP.dsub (4607182418800017408 : UInt64) bb) (FP.ddiv (FP.dmul bb (FP.i2d p0)) av)))), .second, .val (.long nu), .second, .unset, .unset] [(.long sc), (.long (32 : Int64)), (.double (FP.l2d nu))])) _
    refine XS.lmul X8.here hx rfl (hb hby at_132) rfl ?_
    show Steps p.tables e below (T8.setTop (mkF m 133 #[.val (.int p0), .val (.int p1), .val (.int p2), .val (.int p3), .val (.int p4), .val (.int ki), .val (.int j), .val (.int ee), .val (.double aa), .second, .val (.double bb), .second, .val (.long sc), .second, .val (.double av), .second, .val (.ref m1), .val (.ref b2), .val (.double (FP.dmul aa (FP.dadd (FP.dsub (4607182418800017408 : UInt64) bb) (FP.ddiv (FP.dmul bb (FP.i2d p0)) av)))), .second, .val (.long nu), .second, .unset, .unset] [(.long ((32 : Int64) * sc)), (.double (FP.l2d nu))])) _
    rw [hv132]
    show Steps p.tables e below (T8.setTop (mkF m 133 #[.val (.int p0), .val (.int p1), .val (.int p2), .val (.int p3), .val (.int p4), .val (.int ki), .val (.int j), .val (.int ee), .val (.double aa), .second, .val (.double bb), .second, .val (.long sc), .second, .val (.double av), .second, .val (.ref m1), .val (.ref b2), .val (.double (FP.dmul aa (FP.dadd (FP.dsub (4607182418800017408 : UInt64) bb) (FP.ddiv (FP.dmul bb (FP.i2d p0)) av)))), .second, .val (.long nu), .second, .unset, .unset] [(.long de), (.double (FP.l2d nu))])) _
    refine XS.l2dS X8.here hx rfl (hb hby at_133) rfl (v := (FP.l2d de)) rfl ?_
    show Steps p.tables e below (T8.setTop (mkF m 134 #[.val (.int p0), .val (.int p1), .val (.int p2), .val (.int p3), .val (.int p4), .val (.int ki), .val (.int j), .val (.int ee), .val (.double aa), .second, .val (.double bb), .second, .val (.long sc), .second, .val (.double av), .second, .val (.ref m1), .val (.ref b2), .val (.double (FP.dmul aa (FP.dadd (FP.dsub (4607182418800017408 : UInt64) bb) (FP.ddiv (FP.dmul bb (FP.i2d p0)) av)))), .second, .val (.long nu), .second, .unset, .unset] [(.double (FP.l2d de)), (.double (FP.l2d nu))])) _
    refine XS.ddivS X8.here hx rfl (hb hby at_134) rfl nn134 (v := (FP.ddiv (FP.l2d nu) (FP.l2d de))) rfl ?_
    show Steps p.tables e below (T8.setTop (mkF m 135 #[.val (.int p0), .val (.int p1), .val (.int p2), .val (.int p3), .val (.int p4), .val (.int ki), .val (.int j), .val (.int ee), .val (.double aa), .second, .val (.double bb), .second, .val (.long sc), .second, .val (.double av), .second, .val (.ref m1), .val (.ref b2), .val (.double (FP.dmul aa (FP.dadd (FP.dsub (4607182418800017408 : UInt64) bb) (FP.ddiv (FP.dmul bb (FP.i2d p0)) av)))), .second, .val (.long nu), .second, .unset, .unset] [(.double (FP.ddiv (FP.l2d nu) (FP.l2d de)))])) _
    refine XS.dstore X8.here hx rfl (hb hby at_135) rfl (l' := #[.val (.int p0), .val (.int p1), .val (.int p2), .val (.int p3), .val (.int p4), .val (.int ki), .val (.int j), .val (.int ee), .val (.double aa), .second, .val (.double bb), .second, .val (.long sc), .second, .val (.double av), .second, .val (.ref m1), .val (.ref b2), .val (.double (FP.dmul aa (FP.dadd (FP.dsub (4607182418800017408 : UInt64) bb) (FP.ddiv (FP.dmul bb (FP.i2d p0)) av)))), .second, .val (.long nu), .second, .val (.double (FP.ddiv (FP.l2d nu) (FP.l2d de))), .second]) rfl ?_
    show Steps p.tables e below (T8.setTop (mkF m 137 #[.val (.int p0), .val (.int p1), .val (.int p2), .val (.int p3), .val (.int p4), .val (.int ki), .val (.int j), .val (.int ee), .val (.double aa), .second, .val (.double bb), .second, .val (.long sc), .second, .val (.double av), .second, .val (.ref m1), .val (.ref b2), .val (.double (FP.dmul aa (FP.dadd (FP.dsub (4607182418800017408 : UInt64) bb) (FP.ddiv (FP.dmul bb (FP.i2d p0)) av)))), .second, .val (.long nu), .second, .val (.double (FP.ddiv (FP.l2d nu) (FP.l2d de))), .second] [])) _
    refine XS.dload X8.here hx rfl (hb hby at_137) rfl ?_
    show Steps p.tables e below (T8.setTop (mkF m 139 #[.val (.int p0), .val (.int p1), .val (.int p2), .val (.int p3), .val (.int p4), .val (.int ki), .val (.int j), .val (.int ee), .val (.double aa), .second, .val (.double bb), .second, .val (.long sc), .second, .val (.double av), .second, .val (.ref m1), .val (.ref b2), .val (.double (FP.dmul aa (FP.dadd (FP.dsub (4607182418800017408 : UInt64) bb) (FP.ddiv (FP.dmul bb (FP.i2d p0)) av)))), .second, .val (.long nu), .second, .val (.double (FP.ddiv (FP.l2d nu) (FP.l2d de))), .second] [(.double (FP.dmul aa (FP.dadd (FP.dsub (4607182418800017408 : UInt64) bb) (FP.ddiv (FP.dmul bb (FP.i2d p0)) av))))])) _
    refine XS.dload X8.here hx rfl (hb hby at_139) rfl ?_
    show Steps p.tables e below (T8.setTop (mkF m 141 #[.val (.int p0), .val (.int p1), .val (.int p2), .val (.int p3), .val (.int p4), .val (.int ki), .val (.int j), .val (.int ee), .val (.double aa), .second, .val (.double bb), .second, .val (.long sc), .second, .val (.double av), .second, .val (.ref m1), .val (.ref b2), .val (.double (FP.dmul aa (FP.dadd (FP.dsub (4607182418800017408 : UInt64) bb) (FP.ddiv (FP.dmul bb (FP.i2d p0)) av)))), .second, .val (.long nu), .second, .val (.double (FP.ddiv (FP.l2d nu) (FP.l2d de))), .second] [(.double (FP.ddiv (FP.l2d nu) (FP.l2d de))), (.double (FP.dmul aa (FP.dadd (FP.dsub (4607182418800017408 : UInt64) bb) (FP.ddiv (FP.dmul bb (FP.i2d p0)) av))))])) _
    refine XS.dcmpS X8.here hx rfl (hb hby at_141) rfl (v := (0 : Int32)) hd141 ?_
    show Steps p.tables e below (T8.setTop (mkF m 142 #[.val (.int p0), .val (.int p1), .val (.int p2), .val (.int p3), .val (.int p4), .val (.int ki), .val (.int j), .val (.int ee), .val (.double aa), .second, .val (.double bb), .second, .val (.long sc), .second, .val (.double av), .second, .val (.ref m1), .val (.ref b2), .val (.double (FP.dmul aa (FP.dadd (FP.dsub (4607182418800017408 : UInt64) bb) (FP.ddiv (FP.dmul bb (FP.i2d p0)) av)))), .second, .val (.long nu), .second, .val (.double (FP.ddiv (FP.l2d nu) (FP.l2d de))), .second] [(.int (0 : Int32))])) _
    refine XS.ifNo X8.here hx rfl (hb hby at_142) rfl ((if0 _ _).trans (teq (by decide : (0 : Int32) = (0 : Int32))).2) ?_
    show Steps p.tables e below (T8.setTop (mkF m 145 #[.val (.int p0), .val (.int p1), .val (.int p2), .val (.int p3), .val (.int p4), .val (.int ki), .val (.int j), .val (.int ee), .val (.double aa), .second, .val (.double bb), .second, .val (.long sc), .second, .val (.double av), .second, .val (.ref m1), .val (.ref b2), .val (.double (FP.dmul aa (FP.dadd (FP.dsub (4607182418800017408 : UInt64) bb) (FP.ddiv (FP.dmul bb (FP.i2d p0)) av)))), .second, .val (.long nu), .second, .val (.double (FP.ddiv (FP.l2d nu) (FP.l2d de))), .second] [])) _
    refine XS.iconst X8.here hx rfl (hb hby at_145) ?_
    show Steps p.tables e below (T8.setTop (mkF m 146 #[.val (.int p0), .val (.int p1), .val (.int p2), .val (.int p3), .val (.int p4), .val (.int ki), .val (.int j), .val (.int ee), .val (.double aa), .second, .val (.double bb), .second, .val (.long sc), .second, .val (.double av), .second, .val (.ref m1), .val (.ref b2), .val (.double (FP.dmul aa (FP.dadd (FP.dsub (4607182418800017408 : UInt64) bb) (FP.ddiv (FP.dmul bb (FP.i2d p0)) av)))), .second, .val (.long nu), .second, .val (.double (FP.ddiv (FP.l2d nu) (FP.l2d de))), .second] [(.int (1 : Int32))])) _
    refine XS.goto X8.here hx rfl (pc0 := 146) (pc' := 150) rfl (hb hby at_146) (by decide) (by decide) ?_
    show Steps p.tables e below (T8.setTop (mkF m 150 #[.val (.int p0), .val (.int p1), .val (.int p2), .val (.int p3), .val (.int p4), .val (.int ki), .val (.int j), .val (.int ee), .val (.double aa), .second, .val (.double bb), .second, .val (.long sc), .second, .val (.double av), .second, .val (.ref m1), .val (.ref b2), .val (.double (FP.dmul aa (FP.dadd (FP.dsub (4607182418800017408 : UInt64) bb) (FP.ddiv (FP.dmul bb (FP.i2d p0)) av)))), .second, .val (.long nu), .second, .val (.double (FP.ddiv (FP.l2d nu) (FP.l2d de))), .second] [(.int (1 : Int32))])) _
    exact retN X8 hx (t := .boolean) Bd.returns (by simp) (hb hby at_150) hr
  · show Q0 n0 _ T8.heap _
    rw [e8]
    exact ⟨rfl, N8⟩
theorem own_absmax {K : Nat} {x : UInt64} (h : Jvm.Free.Fl.Mag64 K x) (hK : K ≤ 2046) : Jvm.Op.cmpValue (FP.dcmp (x &&& 0x7fffffffffffffff) (9218868437227405311 : UInt64)) .g = (-1 : Int32) := by
  have nx : Jvm.FP.Core.val64 x ≠ .nan := Jvm.OwnFP.nan_of (h.fin (by omega)).noNaN
  have nm : Jvm.FP.Core.val64 (9218868437227405311 : UInt64) ≠ .nan := by rw [Jvm.FP.Core.ne_nan]; decide
  rw [show FP.dcmp (x &&& 0x7fffffffffffffff) (9218868437227405311 : UInt64) = some .lt from (Jvm.FP.Core.dcmp_lt_key (Jvm.FP.Core.mask_ne_nan nx) nm).mpr (by
    rw [Jvm.FP.Core.mask_key, show Jvm.FP.Core.dkey (9218868437227405311 : UInt64) = 9218868437227405311 by decide +kernel]
    unfold Jvm.Free.Fl.Mag64 at h
    omega)]
  rfl
theorem own_shl (p : Int32) : ∃ k W : Nat, ((1 : Int64) <<< ((p &&& (15 : Int32)) &&& 0x3f).toInt64).toInt = (W : Int) ∧ W = 2 ^ k ∧ k ≤ 15 ∧ 1 ≤ W ∧ W ≤ 32768 := by
  have a := c_and p (15 : Int32) (by decide)
  rw [show (15 : Int32).toInt = 15 by decide] at a
  generalize p &&& (15 : Int32) = q at *
  have e : ∀ k : Int32, q.toInt = k.toInt → q = k := fun k h => Int32.toInt_inj.mp h
  have hq : q.toInt = 0 ∨ q.toInt = 1 ∨ q.toInt = 2 ∨ q.toInt = 3 ∨ q.toInt = 4 ∨ q.toInt = 5 ∨ q.toInt = 6 ∨ q.toInt = 7 ∨ q.toInt = 8 ∨ q.toInt = 9 ∨ q.toInt = 10 ∨ q.toInt = 11 ∨ q.toInt = 12 ∨ q.toInt = 13 ∨ q.toInt = 14 ∨ q.toInt = 15 := by omega
  rcases hq with h | h | h | h | h | h | h | h | h | h | h | h | h | h | h | h
  · rw [e 0 (by rw [h]; decide)]; exact ⟨0, 1, by decide, by decide, by decide, by decide, by decide⟩
  · rw [e 1 (by rw [h]; decide)]; exact ⟨1, 2, by decide, by decide, by decide, by decide, by decide⟩
  · rw [e 2 (by rw [h]; decide)]; exact ⟨2, 4, by decide, by decide, by decide, by decide, by decide⟩
  · rw [e 3 (by rw [h]; decide)]; exact ⟨3, 8, by decide, by decide, by decide, by decide, by decide⟩
  · rw [e 4 (by rw [h]; decide)]; exact ⟨4, 16, by decide, by decide, by decide, by decide, by decide⟩
  · rw [e 5 (by rw [h]; decide)]; exact ⟨5, 32, by decide, by decide, by decide, by decide, by decide⟩
  · rw [e 6 (by rw [h]; decide)]; exact ⟨6, 64, by decide, by decide, by decide, by decide, by decide⟩
  · rw [e 7 (by rw [h]; decide)]; exact ⟨7, 128, by decide, by decide, by decide, by decide, by decide⟩
  · rw [e 8 (by rw [h]; decide)]; exact ⟨8, 256, by decide, by decide, by decide, by decide, by decide⟩
  · rw [e 9 (by rw [h]; decide)]; exact ⟨9, 512, by decide, by decide, by decide, by decide, by decide⟩
  · rw [e 10 (by rw [h]; decide)]; exact ⟨10, 1024, by decide, by decide, by decide, by decide, by decide⟩
  · rw [e 11 (by rw [h]; decide)]; exact ⟨11, 2048, by decide, by decide, by decide, by decide, by decide⟩
  · rw [e 12 (by rw [h]; decide)]; exact ⟨12, 4096, by decide, by decide, by decide, by decide, by decide⟩
  · rw [e 13 (by rw [h]; decide)]; exact ⟨13, 8192, by decide, by decide, by decide, by decide, by decide⟩
  · rw [e 14 (by rw [h]; decide)]; exact ⟨14, 16384, by decide, by decide, by decide, by decide, by decide⟩
  · rw [e 15 (by rw [h]; decide)]; exact ⟨15, 32768, by decide, by decide, by decide, by decide, by decide⟩
theorem own_4 : Jvm.OwnFP.Ra 4 1 (4616189618054758400 : UInt64) := Jvm.OwnFP.Ra.lit (s := false) (c := 4503599627370496) (q := -50) (k := 0) (n := 50) (by decide +kernel) rfl (by decide) (by decide) (by decide)
theorem own_8 : Jvm.OwnFP.Ra 8 1 (4620693217682128896 : UInt64) := Jvm.OwnFP.Ra.lit (s := false) (c := 4503599627370496) (q := -49) (k := 0) (n := 49) (by decide +kernel) rfl (by decide) (by decide) (by decide)
theorem own_256 : Jvm.OwnFP.Ra 256 1 (4643211215818981376 : UInt64) := Jvm.OwnFP.Ra.lit (s := false) (c := 4503599627370496) (q := -44) (k := 0) (n := 44) (by decide +kernel) rfl (by decide) (by decide) (by decide)
open Jvm.OwnFP Jvm.Free.Fl in
theorem own_exact {a b w u v : UInt64} {K J : Int} {W k : Nat} (ha : Ra K 4 a) (hb : Ra J 8 b) (n : Int32) (hw : Ra (W : Int) 256 w) (K0 : 0 ≤ K) (K1 : K ≤ 31) (J0 : 0 ≤ J) (J1 : J ≤ 8) (hW : W = 2 ^ k) (hk : k ≤ 15) (W0 : 1 ≤ W) (W1 : W ≤ 32768)
    (hu : Ra (K * ((8 - J) * (W : Int) + 256 * J * n.toInt)) 1 u) (hv : Ra (32 * (W : Int)) 1 v) :
    NoNaN64 (FP.dsub (4607182418800017408 : UInt64) b) ∧ NoNaN64 (FP.dmul b (FP.i2d n)) ∧ NoNaN64 (FP.ddiv (FP.dmul b (FP.i2d n)) w) ∧ NoNaN64 (FP.dadd (FP.dsub (4607182418800017408 : UInt64) b) (FP.ddiv (FP.dmul b (FP.i2d n)) w)) ∧ NoNaN64 (FP.dmul a (FP.dadd (FP.dsub (4607182418800017408 : UInt64) b) (FP.ddiv (FP.dmul b (FP.i2d n)) w))) ∧ NoNaN64 (FP.ddiv u v) ∧
    Jvm.Op.cmpValue (FP.dcmp (FP.dmul a (FP.dadd (FP.dsub (4607182418800017408 : UInt64) b) (FP.ddiv (FP.dmul b (FP.i2d n)) w))) (FP.ddiv u v)) .l = (0 : Int32) := by
  have r := rng32 n
  have hm : (J * n.toInt).natAbs ≤ 8 * 2147483648 := by rw [Int.natAbs_mul]; exact Nat.mul_le_mul (by omega) (by omega)
  have h1 : Ra (8 - J) 8 (FP.dsub (4607182418800017408 : UInt64) b) := Ra.sub (k := 3) (ra_one.scale (D' := 8) (i' := 8) (by decide) (by decide)) hb (by omega) (by decide) (by decide)
  have h2 : Ra (J * n.toInt) 8 (FP.dmul b (FP.i2d n)) := Ra.mul (k := 3) hb (Ra.i2d n) (by omega) (by decide) (by decide)
  have hF : 8 * W = 2 ^ (k + 3) := by rw [hW, Nat.pow_add]; omega
  have hF4 : 4 * (8 * W) = 2 ^ (k + 5) := by rw [hW, Nat.pow_add]; omega
  have hF32 : 32 * W = 2 ^ (k + 5) := by rw [hW, Nat.pow_add]; omega
  generalize hN : J * n.toInt = N at *
  have hJn : 256 * J * n.toInt = 256 * N := by rw [Int.mul_assoc, hN]
  rw [hJn] at hu
  have h3 : Ra (256 * N) (8 * W) (FP.ddiv (FP.dmul b (FP.i2d n)) w) := Ra.div (k := k + 3) h2 hw (by decide) (by decide) (by omega) (by omega) hF (by omega) (by
    rw [show ((8 * W : Nat) : Int) = (W : Int) * 8 by omega, show ((256 : Nat) : Int) = 256 from rfl, show ((8 : Nat) : Int) = 8 from rfl, Int.mul_comm N 256])
  have s0 : 0 ≤ (8 - J) * (W : Int) := Int.mul_nonneg (by omega) (by omega)
  have s1 : (8 - J) * (W : Int) ≤ 8 * 32768 := Int.mul_le_mul (by omega) (by omega) (by omega) (by decide)
  have h4 : Ra ((8 - J) * (W : Int)) (8 * W) (FP.dsub (4607182418800017408 : UInt64) b) := h1.scale (by decide) (by
    rw [show ((8 * W : Nat) : Int) = (W : Int) * 8 by omega, Int.mul_assoc]; rfl)
  have h5 := Ra.add (k := k + 3) h4 h3 (by omega) hF (by omega)
  have hm2 : (K * ((8 - J) * (W : Int) + 256 * N)).natAbs ≤ 31 * 4398047035392 := by rw [Int.natAbs_mul]; exact Nat.mul_le_mul (by omega) (by omega)
  have h6 := Ra.mul (k := k + 5) ha h5 (by omega) hF4 (by omega)
  have h7 : Ra (K * ((8 - J) * (W : Int) + 256 * N)) (4 * (8 * W)) (FP.ddiv u v) := Ra.div (k := k + 5) hu hv (by decide) (by decide) (by omega) (by omega) hF4 (by omega) (by
    rw [show ((4 * (8 * W) : Nat) : Int) = 32 * (W : Int) by omega]; show _ * (1 : Int) * _ = _ * (_ * (1 : Int)); rw [Int.mul_one, Int.mul_one])
  exact ⟨h1.nn, h2.nn, h3.nn, h5.nn, h6.nn, h7.nn, h6.eq h7 (by omega) rfl _⟩
theorem own_law (l : Launch) (Z : State) (a0 : Array Value) (hw : ∀ d ∈ tables_1, d.before a0 Z = true) (ws : List Jvm.Cond) (p0 : Int32) (p1 : Int32) (p2 : Int32) (p3 : Int32) (p4 : Int32) (h0 : Heap) (n0 : Nat) (Z0 : n0 ≤ h0.size) (m0 m1 : Addr) (S0 : Sta Z h0 "com/example/nelira/nelira/ranking/Bm25$Idf" "SMOOTHED" "Lcom/example/nelira/nelira/ranking/Bm25$Idf;" (.ref m0)) (S1 : Sta Z h0 "com/example/nelira/nelira/ranking/Bm25$Idf" "OKAPI" "Lcom/example/nelira/nelira/ranking/Bm25$Idf;" (.ref m1)) :
    MetFree l x (head1 (Jvm.Cond.code x code maxLocals ret :: ws) room_1) (fun a U => a = #[(.int p0), (.int p1), (.int p2), (.int p3), (.int p4)] ∧ Z.Warmed39 U.vm ∧ U.heap = h0) (fun _ _ _ _ _ => True) (fun _ U o U' => ∃ v L, o = .returned v ∧ Q0 n0 v U'.heap L ∧ ReturnedEndW U o U' L room_1.cells room_1.slots) := by
  obtain ⟨ki, eki⟩ : ∃ z, (p1 &&& (31 : Int32)) = z := ⟨_, rfl⟩
  obtain ⟨j, ej⟩ : ∃ z, ((p2 &&& (2147483647 : Int32)) % (9 : Int32)) = z := ⟨_, rfl⟩
  obtain ⟨ee, eee⟩ : ∃ z, (p3 &&& (15 : Int32)) = z := ⟨_, rfl⟩
  obtain ⟨sc, esc⟩ : ∃ z, ((1 : Int64) <<< (ee &&& 0x3f).toInt64) = z := ⟨_, rfl⟩
  obtain ⟨aa, eaa⟩ : ∃ z, FP.ddiv (FP.i2d ki) (4616189618054758400 : UInt64) = z := ⟨_, rfl⟩
  obtain ⟨bb, ebb⟩ : ∃ z, FP.ddiv (FP.i2d j) (4620693217682128896 : UInt64) = z := ⟨_, rfl⟩
  obtain ⟨av, eav⟩ : ∃ z, FP.ddiv (FP.l2d sc) (4643211215818981376 : UInt64) = z := ⟨_, rfl⟩
  obtain ⟨nu, enu⟩ : ∃ z, (ki.toInt64 * ((((8 : Int64) - j.toInt64) * sc) + (((256 : Int64) * j.toInt64) * p0.toInt64))) = z := ⟨_, rfl⟩
  obtain ⟨de, ede⟩ : ∃ z, ((32 : Int64) * sc) = z := ⟨_, rfl⟩
  obtain ⟨k, W, hW, hWk, hk, W0, W1⟩ := own_shl p3
  rw [eee, esc] at hW
  have b0 := c_and p1 (31 : Int32) (by decide)
  have b1 := c_and p2 (2147483647 : Int32) (by decide)
  rw [show (31 : Int32).toInt = 31 by decide, eki] at b0
  rw [show (2147483647 : Int32).toInt = 2147483647 by decide] at b1
  have bj := (c_irem (p2 &&& (2147483647 : Int32)) (9 : Int32) 9 (by decide)).1 b1.1
  rw [ej] at bj
  have J0 : 0 ≤ j.toInt := by omega
  have J1 : j.toInt ≤ 8 := by omega
  have r2 := rng32 p0
  have ra0 : Jvm.OwnFP.Ra ki.toInt 4 (FP.ddiv (FP.i2d ki) (4616189618054758400 : UInt64)) := Jvm.OwnFP.Ra.div (k := 2) (Jvm.OwnFP.Ra.i2d ki) own_4 (by decide) (by decide) (by decide) (by omega) (by decide) (by decide) (by omega)
  have ra : Jvm.OwnFP.Ra ki.toInt 4 aa := eaa ▸ ra0
  have rb0 : Jvm.OwnFP.Ra j.toInt 8 (FP.ddiv (FP.i2d j) (4620693217682128896 : UInt64)) := Jvm.OwnFP.Ra.div (k := 3) (Jvm.OwnFP.Ra.i2d j) own_8 (by decide) (by decide) (by decide) (by omega) (by decide) (by decide) (by omega)
  have rb : Jvm.OwnFP.Ra j.toInt 8 bb := ebb ▸ rb0
  have rs : Jvm.OwnFP.Ra (W : Int) 1 (FP.l2d sc) := (Jvm.OwnFP.Ra.l2d (by omega)).same hW
  have rw0 : Jvm.OwnFP.Ra (W : Int) 256 (FP.ddiv (FP.l2d sc) (4643211215818981376 : UInt64)) := Jvm.OwnFP.Ra.div (k := 8) rs own_256 (by decide) (by decide) (by decide) (by omega) (by decide) (by decide) (by omega)
  have rw' : Jvm.OwnFP.Ra (W : Int) 256 av := eav ▸ rw0
  have hW2 : de.toInt = 32 * (W : Int) := by rw [← ede]; exact Jvm.OwnFP.lmul_of (by decide) hW (by omega) (by omega)
  have rv : Jvm.OwnFP.Ra (32 * (W : Int)) 1 (FP.l2d de) := (Jvm.OwnFP.Ra.l2d (by omega)).same hW2
  have c2 : ((8 : Int64) - j.toInt64).toInt = 8 - j.toInt := Jvm.OwnFP.lsub_of (by decide) (c_i2l _) (by omega) (by omega)
  have s0 : 0 ≤ (8 - j.toInt) * (W : Int) := Int.mul_nonneg (by omega) (by omega)
  have s1 : (8 - j.toInt) * (W : Int) ≤ 8 * 32768 := Int.mul_le_mul (by omega) (by omega) (by omega) (by decide)
  have hm : (256 * j.toInt * p0.toInt).natAbs ≤ 2048 * 2147483648 := by rw [Int.natAbs_mul]; exact Nat.mul_le_mul (by omega) (by omega)
  have c3 : (((8 : Int64) - j.toInt64) * sc).toInt = (8 - j.toInt) * (W : Int) := Jvm.OwnFP.lmul_of c2 hW (by omega) (by omega)
  have c4 : ((256 : Int64) * j.toInt64).toInt = 256 * j.toInt := Jvm.OwnFP.lmul_of (by decide) (c_i2l _) (by omega) (by omega)
  have c4' : (((256 : Int64) * j.toInt64) * p0.toInt64).toInt = 256 * j.toInt * p0.toInt := Jvm.OwnFP.lmul_of c4 (c_i2l _) (by omega) (by omega)
  have c5 := Jvm.OwnFP.ladd_of c3 c4' (by omega) (by omega)
  have hm2 : (ki.toInt * ((8 - j.toInt) * (W : Int) + 256 * j.toInt * p0.toInt)).natAbs ≤ 31 * 4398047035392 := by rw [Int.natAbs_mul]; exact Nat.mul_le_mul (by omega) (by omega)
  have c6 : nu.toInt = ki.toInt * ((8 - j.toInt) * (W : Int) + 256 * j.toInt * p0.toInt) := by rw [← enu]; exact Jvm.OwnFP.lmul_of (c_i2l _) c5 (by omega) (by omega)
  have ru : Jvm.OwnFP.Ra (ki.toInt * ((8 - j.toInt) * (W : Int) + 256 * j.toInt * p0.toInt)) 1 (FP.l2d nu) := (Jvm.OwnFP.Ra.l2d (by omega)).same c6
  obtain ⟨x1, x2, x3, x4, x5, x6, x7⟩ := own_exact ra rb p0 rw' b0.1 b0.2 J0 J1 hWk hk W0 W1 ru rv
  have z8 : Jvm.OwnFP.Ra 0 8 (0 : UInt64) := Jvm.OwnFP.ra_zero.scale (by decide) (by decide)
  have z4 : Jvm.OwnFP.Ra 0 4 (0 : UInt64) := Jvm.OwnFP.ra_zero.scale (by decide) (by decide)
  have o8 : Jvm.OwnFP.Ra 8 8 (4607182418800017408 : UInt64) := Jvm.OwnFP.ra_one.scale (by decide) (by decide)
  have fa : Jvm.Op.cmpValue (FP.dcmp (aa &&& 0x7fffffffffffffff) (9218868437227405311 : UInt64)) .g = (-1 : Int32) := own_absmax (ra.mag (n := 5) (by decide) (by omega)) (by decide)
  by_cases hc : (p4 &&& (1 : Int32)) = (0 : Int32)
  · exact rm00 l Z a0 hw ws p0 p1 p2 p3 p4 m0 m1 ki j ee aa bb sc av nu de h0 n0 Z0 S0 S1 (hv3 := eki) (hv12 := ej) (hv18 := eee) (nn27 := ra0.nn) (hq27 := eaa) (nn36 := rb0.nn) (hq36 := ebb) (hv42 := esc) (nn51 := rw0.nn) (hq51 := eav) (hc58 := hc) (nna1_1_8_82 := ra.nn) (hd7_1_8_82 := fa) (hc10_8_82 := ra.ge z4 (by decide) b0.1 _) (hc3_18_82 := rb.ge z8 (by decide) J0 _) (hc9_18_82 := rb.le o8 (by decide) J1 _) (nn3_10_92 := x1) (nn8_10_92 := x2) (nn11_10_92 := x3) (nn12_10_92 := x4) (nn13_10_92 := x5) (hv121 := enu) (hv132 := ede) (nn134 := x6) (hd141 := x7)
  · exact rm01 l Z a0 hw ws p0 p1 p2 p3 p4 m0 m1 ki j ee aa bb sc av nu de h0 n0 Z0 S0 S1 (hv3 := eki) (hv12 := ej) (hv18 := eee) (nn27 := ra0.nn) (hq27 := eaa) (nn36 := rb0.nn) (hq36 := ebb) (hv42 := esc) (nn51 := rw0.nn) (hq51 := eav) (hc58 := hc) (nna1_1_8_82 := ra.nn) (hd7_1_8_82 := fa) (hc10_8_82 := ra.ge z4 (by decide) b0.1 _) (hc3_18_82 := rb.ge z8 (by decide) J0 _) (hc9_18_82 := rb.le o8 (by decide) J1 _) (nn3_10_92 := x1) (nn8_10_92 := x2) (nn11_10_92 := x3) (nn12_10_92 := x4) (nn13_10_92 := x5) (hv121 := enu) (hv132 := ede) (nn134 := x6) (hd141 := x7)
set_option maxRecDepth 65536 in
set_option maxHeartbeats 40000000 in
theorem comes_1 {Post : Tables → Env → Array Value → State → Outcome → State → Prop} (hpost : ∀ tb e args s v u, (limb_1_1.after args s (.returned v) u = true ∧ limb_1_2.after args s (.returned v) u = true ∧ True) → ReturnedEndW s (.returned v) u (Jvm.fieldLocs frame_1_writes args s ++ Jvm.arrayLocs frame_1_arrays args s ++ Jvm.staticLocs frame_1_statics s) 16 2176 → Post tb e args s (.returned v) u) :
    ArmFor flags0 classFile x code maxLocals ret World_1 tables_1 room_1 Calls_1 rest_1 Pre_1 Post := by
  intro l hfl _ _ p e ha hc hk s m args below hf hA hF happ hP
  obtain ⟨hcalls, hrest, hpre⟩ := hP
  obtain ⟨-, -, -, hnamed, -, -, -, hat⟩ := (Spec.applies_iff hf).mp happ
  obtain ⟨hg, hn⟩ := and_e (Cond.before_iff.mp (show (Jvm.Cond.and given_1 narrow_1).before args s = true from hpre))
  obtain ⟨g1, g2⟩ := and_e hg
  obtain ⟨g3, g4⟩ := and_e g2
  obtain ⟨g5, g6⟩ := and_e g4
  obtain ⟨g7, g8⟩ := and_e g6
  obtain ⟨g9, g10⟩ := and_e g8
  obtain ⟨w0, w1, w2, w3, w4, rfl⟩ : ∃ w0 w1 w2 w3 w4 : Value, args = #[w0, w1, w2, w3, w4] := by
    have hs : args.size = 5 := by simpa [Cond.value, given_1] using g1
    obtain ⟨L⟩ := args
    match L, hs with
    | [w0, w1, w2, w3, w4], _ => exact ⟨w0, w1, w2, w3, w4, rfl⟩
  have hw := fun d (hd : d ∈ tables_1) => atoms_spec (ws := Jvm.Cond.code x code maxLocals ret :: tables_1) hat d (List.mem_cons_of_mem _ hd)
  have hfit : Fit s := fun {y c} hc i hi => by
    obtain ⟨ha, rfl⟩ := Array.getElem?_eq_some_iff.mp hc
    have q := List.all_eq_true.mp ((Array.all_eq_true_iff_forall_mem.mp hF) _ (Array.getElem_mem ha)) i (List.mem_range.mpr hi)
    simpa [Array.getElem?_eq_getElem hi] using q
  obtain ⟨i0, ei0⟩ := is_v g3
  obtain rfl : w0 = (.int i0) := Option.some.inj ei0
  obtain ⟨i1, ei1⟩ := is_v g5
  obtain rfl : w1 = (.int i1) := Option.some.inj ei1
  obtain ⟨i2, ei2⟩ := is_v g7
  obtain rfl : w2 = (.int i2) := Option.some.inj ei2
  obtain ⟨i3, ei3⟩ := is_v g9
  obtain rfl : w3 = (.int i3) := Option.some.inj ei3
  obtain ⟨i4, ei4⟩ := is_v g10
  obtain rfl : w4 = (.int i4) := Option.some.inj ei4
  obtain ⟨x1, x3⟩ := and_e hn
  obtain ⟨m0, ev0⟩ := exa_v x1
  obtain ⟨m1, ev1⟩ := exa_v x3
  have S0 := Sta.start ev0 (Or.inr ⟨hw _ (List.mem_of_getElem? (i := 5) rfl), hw _ (List.mem_of_getElem? (i := 6) rfl)⟩)
  have S1 := Sta.start ev1 (Or.inr ⟨hw _ (List.mem_of_getElem? (i := 5) rfl), hw _ (List.mem_of_getElem? (i := 59) rfl)⟩)
  obtain ⟨n, o, h1, h2, h3, _, L, rfl, ⟨rfl, N⟩, hq⟩ := own_law l s _ hw tables_1 i0 i1 i2 i3 i4 s.heap s.heap.size (Nat.le_refl _) m0 m1 S0 S1 p e ha hc hk s m _ below hf ((Spec.applies_iff_loose hf).mp happ).1 ⟨rfl, State.Warmed39.refl s, rfl⟩ trivial
  refine ⟨n, _, h1, h2, h3, hpost _ _ _ _ _ _ ⟨Cond.after_iff.mpr rfl, Cond.after_iff.mpr (eq_i res_at (Term.int_eval (1)) rfl), trivial⟩ ⟨hq.1, hq.2.1, hq.2.2.1, (hq.2.2.2.sift fun y hy => Or.inr (N y hy)).mono (by decide) (by decide)⟩⟩
theorem main_1_1 : Claimed_1_1 := comes_1 fun _ _ _ _ _ _ h hF => ⟨h.1, hF⟩
theorem main_1_2 : Claimed_1_2 := comes_1 fun _ _ _ _ _ _ h hF => ⟨h.2.1, hF⟩
end Jvm.Pilot.@@N@@
namespace Jvm.Pilot.@@N@@
open Jvm Jvm.ClassFile Sem Op Lib Jvm.Free Jvm.Stand Jvm.Pilot.@@N@@.Jvm.D
/-! MADE BY PROGRAM (witnessworld.py) out of the Statement's table words and the real class files: 21 classes; the members and pool entries that the words name. The judged class is class 1, her method 1. -/
namespace start1
open Jvm.ClassFile
def u (s : String) : CpInfo := .utf8 (stringToUtf16 s)
/-- a pool by its gaps: so many unusable entries, then the entry; so many at the end -/
def gap : Nat → List CpInfo → List CpInfo
  | 0, r => r
  | n + 1, r => .unusable :: gap n r
def poolList (es : List (Nat × CpInfo)) (last : Nat) : List CpInfo := es.foldr (fun e r => gap e.1 (e.2 :: r)) (gap last [])
def pool (es : List (Nat × CpInfo)) (last : Nat) : Array CpInfo := ⟨poolList es last⟩
def fileOf (pool : Array CpInfo) (this : Nat) (attrs : Array Attribute := #[]) (ms : Array MethodInfo := #[]) (fl : Nat := 33) (sup : Nat := 0) (ifs : Array Nat := #[]) (fds : Array FieldInfo := #[]) : ClassFile where
  minorVersion := 0
  majorVersion := 65
  constantPool := pool
  accessFlags := fl
  thisClass := this
  superClass := sup
  interfaces := ifs
  fields := fds
  methods := ms
  attributes := attrs
def plain (name : String) (sup : Option ClassId) : Class where
  name := name
  kind := .ordinary
  loader := none
  accessFlags := 33
  super := sup
  interfaces := #[]
  cf := none
  fields := #[]
  methods := #[]
  instanceTypes := #[]
  staticTypes := #[]
  resolved := #[]
  callSites := []
  init := .initialized
  statics := none
  mirror := none

def pool0 : Array CpInfo := pool [(5, u "<init>"), (0, u "()V"), (1, .class_ 10), (1, u "java/lang/Object")] 113

def k0c0 : Code := { maxStack := 0, maxLocals := 1, code := object_method_1_code, exceptionTable := #[], attributes := #[] }
def k0m0 : Method := { name := "<init>", desc := "()V", sig := { parameters := [], returnType := none }, accessFlags := 1, code := some k0c0 }
/-- java/lang/Object -/
def k0 : Class := { plain "java/lang/Object" none with
  accessFlags := 33
  interfaces := #[]
  cf := some (fileOf pool0 8 #[] #[{ accessFlags := 1, nameIndex := 5, descriptorIndex := 6, attributes := #[] }] 33 0 #[] #[])
  fields := #[]
  methods := #[k0m0]
  instanceTypes := #[]
  staticTypes := #[]
  resolved := Array.replicate 124 none
  statics := none }

def pool1 : Array CpInfo := pool [(2, .class_ 4), (1, u "java/lang/Object"), (0, u "<init>"), (0, u "()V"), (0, .integer 2147483647), (0, .double 4616189618054758400), (1, .double 4620693217682128896), (1, .double 4643211215818981376), (1, .fieldref 15 16), (0, .class_ 17), (0, .nameAndType 18 19), (0, u "com/example/nelira/nelira/ranking/Bm25$Idf"), (0, u "OKAPI"), (0, u "Lcom/example/nelira/nelira/ranking/Bm25$Idf;"), (0, .fieldref 15 21), (0, .nameAndType 22 19), (0, u "SMOOTHED"), (0, .class_ 24), (0, u "com/example/nelira/nelira/ranking/Bm25"), (0, .methodref 23 26), (0, .nameAndType 5 27), (0, u "(DDLcom/example/nelira/nelira/ranking/Bm25$Idf;)V"), (0, .methodref 23 29), (0, .nameAndType 30 31), (0, u "norm"), (0, u "(ID)D"), (0, .long 8), (1, .long 256), (1, .long 32), (1, .class_ 39), (0, u "com/example/nelira/nelira/ranking/Bm25NormPinLaw"), (2, u "law"), (0, u "(IIIII)Z")] 5

def k1m0 : Method := { name := "<init>", desc := "()V", sig := { parameters := [], returnType := none }, accessFlags := 1, code := none }
def k1c1 : Code := { maxStack := 8, maxLocals := 24, code := code, exceptionTable := #[], attributes := #[] }
def k1m1 : Method := { name := "law", desc := "(IIIII)Z", sig := { parameters := [.int, .int, .int, .int, .int], returnType := some .boolean }, accessFlags := 9, code := some k1c1 }
/-- com/example/nelira/nelira/ranking/Bm25NormPinLaw -/
def k1 : Class := { plain "com/example/nelira/nelira/ranking/Bm25NormPinLaw" (some 0) with
  accessFlags := 49
  interfaces := #[]
  cf := some (fileOf pool1 38 #[] #[{ accessFlags := 1, nameIndex := 5, descriptorIndex := 6, attributes := #[] }, { accessFlags := 9, nameIndex := 42, descriptorIndex := 43, attributes := #[] }] 49 2 #[] #[])
  fields := #[]
  methods := #[k1m0, k1m1]
  instanceTypes := #[]
  staticTypes := #[]
  resolved := Array.replicate 49 none
  statics := none }

def pool2 : Array CpInfo := pool [(1, .class_ 2), (0, u "java/lang/constant/Constable"), (0, .class_ 4), (0, u "java/lang/Object")] 6

/-- java/lang/constant/Constable -/
def k2 : Class := { plain "java/lang/constant/Constable" (some 0) with
  accessFlags := 1537
  interfaces := #[]
  cf := some (fileOf pool2 1 #[] #[] 1537 3 #[] #[])
  fields := #[]
  methods := #[]
  instanceTypes := #[]
  staticTypes := #[]
  resolved := Array.replicate 11 none
  statics := none }

def pool3 : Array CpInfo := pool [(1, .class_ 2), (0, u "java/lang/Comparable"), (0, .class_ 4), (0, u "java/lang/Object")] 7

/-- java/lang/Comparable -/
def k3 : Class := { plain "java/lang/Comparable" (some 0) with
  accessFlags := 1537
  interfaces := #[]
  cf := some (fileOf pool3 1 #[] #[] 1537 3 #[] #[])
  fields := #[]
  methods := #[]
  instanceTypes := #[]
  staticTypes := #[]
  resolved := Array.replicate 12 none
  statics := none }

def pool4 : Array CpInfo := pool [(1, .class_ 2), (0, u "java/io/Serializable"), (0, .class_ 4), (0, u "java/lang/Object")] 2

/-- java/io/Serializable -/
def k4 : Class := { plain "java/io/Serializable" (some 0) with
  accessFlags := 1537
  interfaces := #[]
  cf := some (fileOf pool4 1 #[] #[] 1537 3 #[] #[])
  fields := #[]
  methods := #[]
  instanceTypes := #[]
  staticTypes := #[]
  resolved := Array.replicate 7 none
  statics := none }

def pool5 : Array CpInfo := pool [(2, .class_ 4), (1, u "java/lang/Enum"), (0, u "name"), (0, u "Ljava/lang/String;"), (2, u "ordinal"), (0, u "I"), (1, .class_ 14), (1, u "java/lang/Object"), (4, u "hash"), (86, .class_ 108), (1, u "java/lang/Enum$EnumDesc"), (2, .class_ 112), (0, u "java/lang/constant/Constable"), (0, .class_ 114), (0, u "java/lang/Comparable"), (0, .class_ 116), (0, u "java/io/Serializable")] 87

/-- java/lang/Enum -/
def k5 : Class := { plain "java/lang/Enum" (some 0) with
  accessFlags := 1057
  interfaces := #[2, 3, 4]
  cf := some (fileOf pool5 2 #[.nestMembers #[106]] #[] 1057 12 #[111, 113, 115] #[{ accessFlags := 18, nameIndex := 5, descriptorIndex := 6, attributes := #[] }, { accessFlags := 18, nameIndex := 9, descriptorIndex := 10, attributes := #[] }, { accessFlags := 2, nameIndex := 19, descriptorIndex := 10, attributes := #[] }])
  fields := #[{ name := "name", type := (.object "java/lang/String"), accessFlags := 18, slot := 0, constantValue := 0 }, { name := "ordinal", type := .int, accessFlags := 18, slot := 1, constantValue := 0 }, { name := "hash", type := .int, accessFlags := 2, slot := 2, constantValue := 0 }]
  methods := #[]
  instanceTypes := #[(.object "java/lang/String"), .int, .int]
  staticTypes := #[]
  resolved := Array.replicate 204 none
  statics := none }

def pool6 : Array CpInfo := pool [(1, .class_ 2), (0, u "com/example/nelira/nelira/ranking/Bm25$Idf"), (2, u "SMOOTHED"), (0, u "Lcom/example/nelira/nelira/ranking/Bm25$Idf;"), (2, u "OKAPI"), (2, u "$VALUES"), (0, u "[Lcom/example/nelira/nelira/ranking/Bm25$Idf;"), (6, .class_ 22), (1, u "java/lang/Enum"), (25, .class_ 49), (0, u "com/example/nelira/nelira/ranking/Bm25")] 2

/-- com/example/nelira/nelira/ranking/Bm25$Idf -/
def k6 : Class := { plain "com/example/nelira/nelira/ranking/Bm25$Idf" (some 5) with
  accessFlags := 16433
  interfaces := #[]
  cf := some (fileOf pool6 1 #[.nestHost 48] #[] 16433 20 #[] #[{ accessFlags := 16409, nameIndex := 5, descriptorIndex := 6, attributes := #[] }, { accessFlags := 16409, nameIndex := 9, descriptorIndex := 6, attributes := #[] }, { accessFlags := 4122, nameIndex := 12, descriptorIndex := 13, attributes := #[] }])
  fields := #[{ name := "SMOOTHED", type := (.object "com/example/nelira/nelira/ranking/Bm25$Idf"), accessFlags := 16409, slot := 0, constantValue := 0 }, { name := "OKAPI", type := (.object "com/example/nelira/nelira/ranking/Bm25$Idf"), accessFlags := 16409, slot := 1, constantValue := 0 }, { name := "$VALUES", type := (.array (.object "com/example/nelira/nelira/ranking/Bm25$Idf")), accessFlags := 4122, slot := 2, constantValue := 0 }]
  methods := #[]
  instanceTypes := #[(.object "java/lang/String"), .int, .int]
  staticTypes := #[(.object "com/example/nelira/nelira/ranking/Bm25$Idf"), (.object "com/example/nelira/nelira/ranking/Bm25$Idf"), (.array (.object "com/example/nelira/nelira/ranking/Bm25$Idf"))]
  resolved := Array.replicate 52 none
  statics := some 0 }

def pool7 : Array CpInfo := pool [(1, .class_ 2), (0, u "com/example/nelira/nelira/ranking/Scorer"), (0, .class_ 4), (0, u "java/lang/Object")] 21

/-- com/example/nelira/nelira/ranking/Scorer -/
def k7 : Class := { plain "com/example/nelira/nelira/ranking/Scorer" (some 0) with
  accessFlags := 1537
  interfaces := #[]
  cf := some (fileOf pool7 1 #[] #[] 1537 3 #[] #[])
  fields := #[]
  methods := #[]
  instanceTypes := #[]
  staticTypes := #[]
  resolved := Array.replicate 26 none
  statics := none }

def pool8 : Array CpInfo := pool [(1, .methodref 2 3), (0, .class_ 4), (0, .nameAndType 5 6), (0, u "java/lang/Object"), (0, u "<init>"), (0, u "()V"), (0, .string 8), (0, u "k1"), (0, .methodref 10 11), (0, .class_ 12), (0, .nameAndType 13 14), (0, u "com/example/nelira/nelira/ranking/ScorerConstants"), (0, u "atLeastZero"), (0, u "(Ljava/lang/String;D)D"), (0, .fieldref 16 17), (0, .class_ 18), (0, .nameAndType 19 20), (0, u "com/example/nelira/nelira/ranking/Bm25"), (0, u "_k1"), (0, u "D"), (0, .string 22), (0, u "b"), (0, .methodref 10 24), (0, .nameAndType 25 14), (0, u "zeroToOne"), (0, .fieldref 16 27), (0, .nameAndType 28 20), (0, u "_b"), (0, .fieldref 16 30), (0, .nameAndType 31 32), (0, u "_idf"), (0, u "Lcom/example/nelira/nelira/ranking/Bm25$Idf;"), (5, .class_ 40), (1, u "com/example/nelira/nelira/ranking/Bm25$Idf"), (3, u "(DDLcom/example/nelira/nelira/ranking/Bm25$Idf;)V"), (20, u "norm"), (0, u "(ID)D"), (32, .methodref 16 100), (0, .nameAndType 101 102), (0, u "lengthNorm"), (0, u "(DDID)D"), (5, .class_ 109), (0, u "com/example/nelira/nelira/ranking/Scorer"), (0, u "DEFAULT_K1"), (1, u "DEFAULT_B")] 16

def k8c0 : Code := { maxStack := 4, maxLocals := 6, code := prog_44_method_1_code, exceptionTable := #[], attributes := #[] }
def k8m0 : Method := { name := "<init>", desc := "(DDLcom/example/nelira/nelira/ranking/Bm25$Idf;)V", sig := { parameters := [.double, .double, (.object "com/example/nelira/nelira/ranking/Bm25$Idf")], returnType := none }, accessFlags := 1, code := some k8c0 }
def k8c1 : Code := { maxStack := 7, maxLocals := 4, code := prog_44_method_6_code, exceptionTable := #[], attributes := #[] }
def k8m1 : Method := { name := "norm", desc := "(ID)D", sig := { parameters := [.int, .double], returnType := some .double }, accessFlags := 1, code := some k8c1 }
def k8c2 : Code := { maxStack := 8, maxLocals := 7, code := prog_44_method_8_code, exceptionTable := #[], attributes := #[] }
def k8m2 : Method := { name := "lengthNorm", desc := "(DDID)D", sig := { parameters := [.double, .double, .int, .double], returnType := some .double }, accessFlags := 8, code := some k8c2 }
/-- com/example/nelira/nelira/ranking/Bm25 -/
def k8 : Class := { plain "com/example/nelira/nelira/ranking/Bm25" (some 0) with
  accessFlags := 49
  interfaces := #[7]
  cf := some (fileOf pool8 16 #[.nestMembers #[38]] #[{ accessFlags := 1, nameIndex := 5, descriptorIndex := 44, attributes := #[] }, { accessFlags := 1, nameIndex := 65, descriptorIndex := 66, attributes := #[] }, { accessFlags := 8, nameIndex := 101, descriptorIndex := 102, attributes := #[] }] 49 2 #[108] #[{ accessFlags := 25, nameIndex := 110, descriptorIndex := 20, attributes := #[] }, { accessFlags := 25, nameIndex := 112, descriptorIndex := 20, attributes := #[] }, { accessFlags := 18, nameIndex := 19, descriptorIndex := 20, attributes := #[] }, { accessFlags := 18, nameIndex := 28, descriptorIndex := 20, attributes := #[] }, { accessFlags := 18, nameIndex := 31, descriptorIndex := 32, attributes := #[] }])
  fields := #[{ name := "DEFAULT_K1", type := .double, accessFlags := 25, slot := 0, constantValue := 0 }, { name := "DEFAULT_B", type := .double, accessFlags := 25, slot := 1, constantValue := 0 }, { name := "_k1", type := .double, accessFlags := 18, slot := 0, constantValue := 0 }, { name := "_b", type := .double, accessFlags := 18, slot := 1, constantValue := 0 }, { name := "_idf", type := (.object "com/example/nelira/nelira/ranking/Bm25$Idf"), accessFlags := 18, slot := 2, constantValue := 0 }]
  methods := #[k8m0, k8m1, k8m2]
  instanceTypes := #[.double, .double, (.object "com/example/nelira/nelira/ranking/Bm25$Idf")]
  staticTypes := #[.double, .double]
  resolved := Array.replicate 129 none
  statics := none }

def pool9 : Array CpInfo := pool [(2, .class_ 4), (1, u "java/lang/CharSequence"), (42, .class_ 48), (0, u "java/lang/CharSequence$1CodePointIterator"), (10, .class_ 60), (0, u "java/lang/CharSequence$1CharIterator"), (5, .class_ 67), (0, u "java/lang/Object")] 63

/-- java/lang/CharSequence -/
def k9 : Class := { plain "java/lang/CharSequence" (some 0) with
  accessFlags := 1537
  interfaces := #[]
  cf := some (fileOf pool9 2 #[.nestMembers #[47, 59]] #[] 1537 66 #[] #[])
  fields := #[]
  methods := #[]
  instanceTypes := #[]
  staticTypes := #[]
  resolved := Array.replicate 131 none
  statics := none }

def pool10 : Array CpInfo := pool [(1, .class_ 2), (0, u "java/lang/constant/ConstantDesc"), (0, .class_ 4), (0, u "java/lang/Object")] 32

/-- java/lang/constant/ConstantDesc -/
def k10 : Class := { plain "java/lang/constant/ConstantDesc" (some 0) with
  accessFlags := 1537
  interfaces := #[]
  cf := some (fileOf pool10 1 #[] #[] 1537 3 #[] #[])
  fields := #[]
  methods := #[]
  instanceTypes := #[]
  staticTypes := #[]
  resolved := Array.replicate 37 none
  statics := none }

def pool11 : Array CpInfo := pool [(2, .class_ 4), (1, u "java/lang/Object"), (0, u "<init>"), (0, u "()V"), (3, .class_ 12), (1, u "java/lang/String"), (0, u "value"), (0, u "[B"), (2, u "coder"), (0, u "B"), (2, u "hash"), (0, u "I"), (2, u "hashIsZero"), (0, u "Z"), (13, u "COMPACT_STRINGS"), (534, .class_ 576), (0, u "java/lang/CharSequence"), (22, u "CASE_INSENSITIVE_ORDER"), (0, u "Ljava/util/Comparator;"), (500, u "serialPersistentFields"), (0, u "[Ljava/io/ObjectStreamField;"), (0, .class_ 1104), (0, u "java/lang/String$CaseInsensitiveComparator"), (1, .class_ 1107), (0, u "java/io/Serializable"), (0, .class_ 1109), (0, u "java/lang/Comparable"), (0, .class_ 1111), (0, u "java/lang/constant/Constable"), (0, .class_ 1113), (0, u "java/lang/constant/ConstantDesc"), (2, u "serialVersionUID"), (0, u "J"), (3, u "REPL"), (0, u "C"), (2, u "LATIN1"), (1, u "UTF16")] 323

def k11m0 : Method := { name := "<init>", desc := "()V", sig := { parameters := [], returnType := none }, accessFlags := 1, code := none }
/-- java/lang/String -/
def k11 : Class := { plain "java/lang/String" (some 0) with
  accessFlags := 49
  interfaces := #[4, 3, 9, 2, 10]
  cf := some (fileOf pool11 10 #[.nestMembers #[1103]] #[{ accessFlags := 1, nameIndex := 5, descriptorIndex := 6, attributes := #[] }] 49 2 #[1106, 1108, 575, 1110, 1112] #[{ accessFlags := 18, nameIndex := 13, descriptorIndex := 14, attributes := #[] }, { accessFlags := 18, nameIndex := 17, descriptorIndex := 18, attributes := #[] }, { accessFlags := 2, nameIndex := 21, descriptorIndex := 22, attributes := #[] }, { accessFlags := 2, nameIndex := 25, descriptorIndex := 26, attributes := #[] }, { accessFlags := 26, nameIndex := 1116, descriptorIndex := 1117, attributes := #[] }, { accessFlags := 24, nameIndex := 40, descriptorIndex := 26, attributes := #[] }, { accessFlags := 26, nameIndex := 1101, descriptorIndex := 1102, attributes := #[] }, { accessFlags := 26, nameIndex := 1121, descriptorIndex := 1122, attributes := #[] }, { accessFlags := 25, nameIndex := 599, descriptorIndex := 600, attributes := #[] }, { accessFlags := 24, nameIndex := 1125, descriptorIndex := 18, attributes := #[] }, { accessFlags := 24, nameIndex := 1127, descriptorIndex := 18, attributes := #[] }])
  fields := #[{ name := "value", type := (.array .byte), accessFlags := 18, slot := 0, constantValue := 0 }, { name := "coder", type := .byte, accessFlags := 18, slot := 1, constantValue := 0 }, { name := "hash", type := .int, accessFlags := 2, slot := 2, constantValue := 0 }, { name := "hashIsZero", type := .boolean, accessFlags := 2, slot := 3, constantValue := 0 }, { name := "serialVersionUID", type := .long, accessFlags := 26, slot := 0, constantValue := 0 }, { name := "COMPACT_STRINGS", type := .boolean, accessFlags := 24, slot := 1, constantValue := 0 }, { name := "serialPersistentFields", type := (.array (.object "java/io/ObjectStreamField")), accessFlags := 26, slot := 2, constantValue := 0 }, { name := "REPL", type := .char, accessFlags := 26, slot := 3, constantValue := 0 }, { name := "CASE_INSENSITIVE_ORDER", type := (.object "java/util/Comparator"), accessFlags := 25, slot := 4, constantValue := 0 }, { name := "LATIN1", type := .byte, accessFlags := 24, slot := 5, constantValue := 0 }, { name := "UTF16", type := .byte, accessFlags := 24, slot := 6, constantValue := 0 }]
  methods := #[k11m0]
  instanceTypes := #[(.array .byte), .byte, .int, .boolean]
  staticTypes := #[.long, .boolean, (.array (.object "java/io/ObjectStreamField")), .char, (.object "java/util/Comparator"), .byte, .byte]
  resolved := Array.replicate 1451 none
  statics := none }

def pool12 : Array CpInfo := pool [(2, .class_ 4), (1, u "java/lang/Object"), (0, u "<init>"), (0, u "()V"), (0, .methodref 8 9), (0, .class_ 10), (0, .nameAndType 11 12), (0, u "java/lang/Double"), (0, u "isFinite"), (0, u "(D)Z"), (11, .class_ 25), (0, u "com/example/nelira/nelira/ranking/ScorerConstants"), (2, u "atLeastZero"), (0, u "(Ljava/lang/String;D)D"), (1, u "zeroToOne")] 22

def k12m0 : Method := { name := "<init>", desc := "()V", sig := { parameters := [], returnType := none }, accessFlags := 2, code := none }
def k12c1 : Code := { maxStack := 5, maxLocals := 3, code := prog_62_method_2_code, exceptionTable := #[], attributes := #[] }
def k12m1 : Method := { name := "atLeastZero", desc := "(Ljava/lang/String;D)D", sig := { parameters := [(.object "java/lang/String"), .double], returnType := some .double }, accessFlags := 8, code := some k12c1 }
def k12c2 : Code := { maxStack := 5, maxLocals := 3, code := prog_62_method_3_code, exceptionTable := #[], attributes := #[] }
def k12m2 : Method := { name := "zeroToOne", desc := "(Ljava/lang/String;D)D", sig := { parameters := [(.object "java/lang/String"), .double], returnType := some .double }, accessFlags := 8, code := some k12c2 }
/-- com/example/nelira/nelira/ranking/ScorerConstants -/
def k12 : Class := { plain "com/example/nelira/nelira/ranking/ScorerConstants" (some 0) with
  accessFlags := 48
  interfaces := #[]
  cf := some (fileOf pool12 24 #[] #[{ accessFlags := 2, nameIndex := 5, descriptorIndex := 6, attributes := #[] }, { accessFlags := 8, nameIndex := 28, descriptorIndex := 29, attributes := #[] }, { accessFlags := 8, nameIndex := 31, descriptorIndex := 29, attributes := #[] }] 48 2 #[] #[])
  fields := #[]
  methods := #[k12m0, k12m1, k12m2]
  instanceTypes := #[]
  staticTypes := #[]
  resolved := Array.replicate 54 none
  statics := none }

def pool13 : Array CpInfo := pool [(2, .class_ 4), (1, u "java/lang/Object"), (0, u "<init>"), (0, u "()V"), (1, .class_ 10), (1, u "java/lang/Number"), (2, .class_ 14), (0, u "java/io/Serializable"), (0, u "serialVersionUID"), (0, u "J")] 20

def k13m0 : Method := { name := "<init>", desc := "()V", sig := { parameters := [], returnType := none }, accessFlags := 1, code := none }
/-- java/lang/Number -/
def k13 : Class := { plain "java/lang/Number" (some 0) with
  accessFlags := 1057
  interfaces := #[4]
  cf := some (fileOf pool13 8 #[] #[{ accessFlags := 1, nameIndex := 5, descriptorIndex := 6, attributes := #[] }] 1057 2 #[13] #[{ accessFlags := 26, nameIndex := 15, descriptorIndex := 16, attributes := #[] }])
  fields := #[{ name := "serialVersionUID", type := .long, accessFlags := 26, slot := 0, constantValue := 0 }]
  methods := #[k13m0]
  instanceTypes := #[]
  staticTypes := #[.long]
  resolved := Array.replicate 37 none
  statics := none }

def pool14 : Array CpInfo := pool [(1, .class_ 2), (0, u "java/lang/Double"), (10, u "isFinite"), (0, u "(D)Z"), (8, .class_ 25), (1, u "java/lang/Math"), (12, .methodref 23 39), (0, .nameAndType 40 41), (0, u "abs"), (0, u "(D)D"), (69, .double 9218868437227405311), (2, .class_ 116), (1, u "java/lang/Number"), (3, u "value"), (0, u "D"), (51, u "TYPE"), (0, u "Ljava/lang/Class;"), (0, .class_ 176), (0, u "java/lang/Comparable"), (0, .class_ 178), (0, u "java/lang/constant/Constable"), (0, .class_ 180), (0, u "java/lang/constant/ConstantDesc"), (0, u "POSITIVE_INFINITY"), (3, u "NEGATIVE_INFINITY"), (2, u "NaN"), (2, u "MAX_VALUE"), (0, u "MIN_NORMAL"), (0, u "MIN_VALUE"), (2, u "SIZE"), (0, u "I"), (1, u "PRECISION"), (1, u "MAX_EXPONENT"), (1, u "MIN_EXPONENT"), (1, u "BYTES"), (3, u "serialVersionUID"), (0, u "J")] 79

def k14c0 : Code := { maxStack := 4, maxLocals := 2, code := jdk_117_method_8_code, exceptionTable := #[], attributes := #[] }
def k14m0 : Method := { name := "isFinite", desc := "(D)Z", sig := { parameters := [.double], returnType := some .boolean }, accessFlags := 9, code := some k14c0 }
/-- java/lang/Double -/
def k14 : Class := { plain "java/lang/Double" (some 13) with
  accessFlags := 49
  interfaces := #[3, 2, 10]
  cf := some (fileOf pool14 1 #[] #[{ accessFlags := 9, nameIndex := 13, descriptorIndex := 14, attributes := #[] }] 49 114 #[175, 177, 179] #[{ accessFlags := 25, nameIndex := 181, descriptorIndex := 121, attributes := #[] }, { accessFlags := 25, nameIndex := 185, descriptorIndex := 121, attributes := #[] }, { accessFlags := 25, nameIndex := 188, descriptorIndex := 121, attributes := #[] }, { accessFlags := 25, nameIndex := 191, descriptorIndex := 121, attributes := #[] }, { accessFlags := 25, nameIndex := 192, descriptorIndex := 121, attributes := #[] }, { accessFlags := 25, nameIndex := 193, descriptorIndex := 121, attributes := #[] }, { accessFlags := 25, nameIndex := 196, descriptorIndex := 197, attributes := #[] }, { accessFlags := 25, nameIndex := 199, descriptorIndex := 197, attributes := #[] }, { accessFlags := 25, nameIndex := 201, descriptorIndex := 197, attributes := #[] }, { accessFlags := 25, nameIndex := 203, descriptorIndex := 197, attributes := #[] }, { accessFlags := 25, nameIndex := 205, descriptorIndex := 197, attributes := #[] }, { accessFlags := 25, nameIndex := 173, descriptorIndex := 174, attributes := #[] }, { accessFlags := 18, nameIndex := 120, descriptorIndex := 121, attributes := #[] }, { accessFlags := 26, nameIndex := 209, descriptorIndex := 210, attributes := #[] }])
  fields := #[{ name := "POSITIVE_INFINITY", type := .double, accessFlags := 25, slot := 0, constantValue := 0 }, { name := "NEGATIVE_INFINITY", type := .double, accessFlags := 25, slot := 1, constantValue := 0 }, { name := "NaN", type := .double, accessFlags := 25, slot := 2, constantValue := 0 }, { name := "MAX_VALUE", type := .double, accessFlags := 25, slot := 3, constantValue := 0 }, { name := "MIN_NORMAL", type := .double, accessFlags := 25, slot := 4, constantValue := 0 }, { name := "MIN_VALUE", type := .double, accessFlags := 25, slot := 5, constantValue := 0 }, { name := "SIZE", type := .int, accessFlags := 25, slot := 6, constantValue := 0 }, { name := "PRECISION", type := .int, accessFlags := 25, slot := 7, constantValue := 0 }, { name := "MAX_EXPONENT", type := .int, accessFlags := 25, slot := 8, constantValue := 0 }, { name := "MIN_EXPONENT", type := .int, accessFlags := 25, slot := 9, constantValue := 0 }, { name := "BYTES", type := .int, accessFlags := 25, slot := 10, constantValue := 0 }, { name := "TYPE", type := (.object "java/lang/Class"), accessFlags := 25, slot := 11, constantValue := 0 }, { name := "value", type := .double, accessFlags := 18, slot := 0, constantValue := 0 }, { name := "serialVersionUID", type := .long, accessFlags := 26, slot := 12, constantValue := 0 }]
  methods := #[k14m0]
  instanceTypes := #[.double]
  staticTypes := #[.double, .double, .double, .double, .double, .double, .int, .int, .int, .int, .int, (.object "java/lang/Class"), .long]
  resolved := Array.replicate 290 none
  statics := none }

def pool15 : Array CpInfo := pool [(1, .class_ 2), (0, u "java/lang/Math"), (1, .class_ 6), (1, u "java/lang/Object"), (0, u "<init>"), (0, u "()V"), (5, u "(D)D"), (83, .class_ 100), (1, u "java/lang/Math$RandomNumberGeneratorHolder"), (23, u "abs"), (47, u "negativeZeroFloatBits"), (0, u "J"), (2, u "negativeZeroDoubleBits"), (68, u "$assertionsDisabled"), (0, u "Z"), (91, u "twoToTheDoubleScaleDown"), (0, u "D"), (4, u "twoToTheDoubleScaleUp"), (9, u "E"), (3, u "PI"), (2, u "TAU"), (2, u "DEGREES_TO_RADIANS"), (0, u "RADIANS_TO_DEGREES")] 94

def k15m0 : Method := { name := "<init>", desc := "()V", sig := { parameters := [], returnType := none }, accessFlags := 2, code := none }
def k15c1 : Code := { maxStack := 4, maxLocals := 2, code := jdk_29_method_64_code, exceptionTable := #[], attributes := #[] }
def k15m1 : Method := { name := "abs", desc := "(D)D", sig := { parameters := [.double], returnType := some .double }, accessFlags := 9, code := some k15c1 }
/-- java/lang/Math -/
def k15 : Class := { plain "java/lang/Math" (some 0) with
  accessFlags := 49
  interfaces := #[]
  cf := some (fileOf pool15 1 #[.nestMembers #[98]] #[{ accessFlags := 2, nameIndex := 7, descriptorIndex := 8, attributes := #[] }, { accessFlags := 9, nameIndex := 124, descriptorIndex := 14, attributes := #[] }] 49 4 #[] #[{ accessFlags := 25, nameIndex := 354, descriptorIndex := 339, attributes := #[] }, { accessFlags := 25, nameIndex := 358, descriptorIndex := 339, attributes := #[] }, { accessFlags := 25, nameIndex := 361, descriptorIndex := 339, attributes := #[] }, { accessFlags := 26, nameIndex := 364, descriptorIndex := 339, attributes := #[] }, { accessFlags := 26, nameIndex := 365, descriptorIndex := 339, attributes := #[] }, { accessFlags := 26, nameIndex := 172, descriptorIndex := 173, attributes := #[] }, { accessFlags := 26, nameIndex := 176, descriptorIndex := 173, attributes := #[] }, { accessFlags := 8, nameIndex := 344, descriptorIndex := 339, attributes := #[] }, { accessFlags := 8, nameIndex := 338, descriptorIndex := 339, attributes := #[] }, { accessFlags := 4120, nameIndex := 245, descriptorIndex := 246, attributes := #[] }])
  fields := #[{ name := "E", type := .double, accessFlags := 25, slot := 0, constantValue := 0 }, { name := "PI", type := .double, accessFlags := 25, slot := 1, constantValue := 0 }, { name := "TAU", type := .double, accessFlags := 25, slot := 2, constantValue := 0 }, { name := "DEGREES_TO_RADIANS", type := .double, accessFlags := 26, slot := 3, constantValue := 0 }, { name := "RADIANS_TO_DEGREES", type := .double, accessFlags := 26, slot := 4, constantValue := 0 }, { name := "negativeZeroFloatBits", type := .long, accessFlags := 26, slot := 5, constantValue := 0 }, { name := "negativeZeroDoubleBits", type := .long, accessFlags := 26, slot := 6, constantValue := 0 }, { name := "twoToTheDoubleScaleUp", type := .double, accessFlags := 8, slot := 7, constantValue := 0 }, { name := "twoToTheDoubleScaleDown", type := .double, accessFlags := 8, slot := 8, constantValue := 0 }, { name := "$assertionsDisabled", type := .boolean, accessFlags := 4120, slot := 9, constantValue := 0 }]
  methods := #[k15m0, k15m1]
  instanceTypes := #[]
  staticTypes := #[.double, .double, .double, .double, .double, .long, .long, .double, .double, .boolean]
  resolved := Array.replicate 460 none
  statics := none }

def pool16 : Array CpInfo := pool [(1, u "java/lang/Cloneable"), (0, .class_ 1), (0, u "java/lang/Object"), (0, .class_ 3)] 3

/-- java/lang/Cloneable -/
def k16 : Class := { plain "java/lang/Cloneable" (some 0) with
  accessFlags := 1537
  interfaces := #[]
  cf := some (fileOf pool16 2 #[] #[] 1537 4 #[] #[])
  fields := #[]
  methods := #[]
  instanceTypes := #[]
  staticTypes := #[]
  resolved := Array.replicate 8 none
  statics := none }

/-- the primitive byte -/
def k17 : Class := { plain "byte" none with kind := .primitive 'B', accessFlags := 0x411 }
/-- [B -/
def k18 : Class := { plain "[B" (some 0) with kind := .array 17 .byte, interfaces := #[16, 4], accessFlags := 1041 }

/-- the primitive int -/
def k19 : Class := { plain "int" none with kind := .primitive 'I', accessFlags := 0x411 }
/-- [I -/
def k20 : Class := { plain "[I" (some 0) with kind := .array 19 .int, interfaces := #[16, 4], accessFlags := 1041 }

def heap : Heap := #[{ cls := 6, slots := #[.ref 1, .ref 2, .null], vm := .statics 6 },
  { cls := 6, slots := #[.null, .int 0, .int 0], vm := .none },
  { cls := 6, slots := #[.null, .int 1, .int 0], vm := .none }]
def classes : Array Class := #[k0, k1, k2, k3, k4, k5, k6, k7, k8, k9, k10, k11, k12, k13, k14, k15, k16, k17, k18, k19, k20]
def interned : List (Array UInt16 × Addr) := []
def slotsUsed : Nat := 9
def theMethod : MethodId := ⟨1, 1⟩
def args0 : Array Value := #[.int 5, .int 7, .int 3, .int 2, .int 1]
def aboutOver (below : List Frame) : State where
  vm := { classes := classes, interned := interned.toArray }
  heap := heap
  slotsUsed := slotsUsed
  threads := #[{ frames := .invoking theMethod args0 :: below }]
def below0 : List Frame := [.native { method := ⟨0, 0⟩, args := #[] }]
def about1 : State := aboutOver below0
def p0 : Program := .bare "" "" ""
def e0 : Env := launch0.env 0 0 0
theorem w_frames : about1.frames = Frame.invoking theMethod args0 :: below0 := rfl
set_option maxRecDepth 65536 in
theorem w_args : argsFit about1.vm theMethod args0 = true := by decide +kernel
set_option maxRecDepth 65536 in
theorem w_heap : heapFits about1 = true := by decide +kernel
set_option maxRecDepth 65536 in
theorem w_runnable : about1.curStatus? = some .runnable := by decide +kernel
set_option maxRecDepth 65536 in
theorem w_alone : about1.alone = true := by decide +kernel
set_option maxRecDepth 65536 in
theorem w_named : about1.methodNamed? x = some theMethod := by decide +kernel
set_option maxRecDepth 65536 in
theorem w_hears : about1.hears theMethod below0 = true := by decide +kernel
set_option maxRecDepth 65536 in
theorem w_ripe : about1.ripe theMethod args0 below0 = true := by decide +kernel
theorem w_running : about1.status = .running := rfl
set_option maxRecDepth 65536 in
theorem w_room : about1.hasRoom e0.platform room_1 = true :=
  launch0.hasRoom_least _ room_1 (by decide +kernel) (by decide +kernel) (by decide +kernel) (by decide +kernel) (by decide +kernel) (by decide +kernel)
theorem allAtoms_all (ts : List Jvm.Cond) (a : Array Jvm.Value) (st : Jvm.State) : (allAtoms ts).before a st = ts.all (fun c => c.before a st) := by
  induction ts with
  | nil => rfl
  | cons c t ih =>
    show (Jvm.Cond.and c (allAtoms t)).before a st = _
    rw [Jvm.Cond.before_and, ih, List.all_cons]
def words1 : List Jvm.Cond := Jvm.Cond.code x code maxLocals ret :: tables_1
/-- a 'code' word, met by the world's own term for the bytes: nothing is compared byte by byte -/
theorem code_word {y : MethodName} {bytes : ByteArray} {mx : Nat} {rt : Option FieldType} {a : Array Value} {s : State} {m : MethodId} {meth : Method} {c : Code} (h1 : s.methodNamed? y = some m) (h2 : s.vm.method? m = some meth) (h3 : meth.code = some c) (h4 : c.code = bytes)
    (h5 : (c.maxLocals == mx && c.exceptionTable.isEmpty && decide (c.maxStack ≤ mostOperands) && decide (meth.sig.returnType = rt) && !meth.locks && decide (parseMethodDescriptor y.desc = some meth.sig)) = true) : (Jvm.Cond.code y bytes mx rt).before a s = true := by
  simp only [Bool.and_eq_true, beq_iff_eq, Bool.not_eq_true', decide_eq_true_eq] at h5
  obtain ⟨⟨⟨⟨⟨g1, g2⟩, g3⟩, g4⟩, g5⟩, g6⟩ := h5
  simp [Cond.before, Cond.holds, Cond.value, h1, h2, h3, h4, g1, g2, g3, g4, g5, g6]
def isCode : Jvm.Cond → Bool
  | .code _ _ _ _ => true
  | _ => false
theorem all_split {L : List Jvm.Cond} {P : Jvm.Cond → Bool} (h1 : L.all (fun c => isCode c || P c) = true) (h2 : ∀ c ∈ L.filter isCode, P c = true) : L.all P = true := by
  refine List.all_eq_true.mpr fun c hc => ?_
  have h := List.all_eq_true.mp h1 c hc
  rcases Bool.eq_false_or_eq_true (isCode c) with hi | hi
  · exact h2 c (List.mem_filter.mpr ⟨hc, hi⟩)
  · simpa [hi] using h
set_option maxRecDepth 65536 in
theorem w_c0 : (Jvm.Cond.code x code maxLocals ret).before args0 about1 = true := code_word (m := ⟨1, 1⟩) (meth := k1m1) (c := k1c1) (by decide +kernel) rfl rfl rfl (by decide +kernel)
set_option maxRecDepth 65536 in
theorem w_c1 : (Jvm.Cond.code ({ cls := "com/example/nelira/nelira/ranking/Bm25", name := "<init>", desc := "(DDLcom/example/nelira/nelira/ranking/Bm25$Idf;)V" } : Jvm.MethodName) prog_44_method_1_code (6 : Nat) (Option.none : Option Jvm.ClassFile.FieldType)).before args0 about1 = true := code_word (m := ⟨8, 0⟩) (meth := k8m0) (c := k8c0) (by decide +kernel) rfl rfl rfl (by decide +kernel)
set_option maxRecDepth 65536 in
theorem w_c2 : (Jvm.Cond.code ({ cls := "java/lang/Object", name := "<init>", desc := "()V" } : Jvm.MethodName) object_method_1_code (1 : Nat) (Option.none : Option Jvm.ClassFile.FieldType)).before args0 about1 = true := code_word (m := ⟨0, 0⟩) (meth := k0m0) (c := k0c0) (by decide +kernel) rfl rfl rfl (by decide +kernel)
set_option maxRecDepth 65536 in
theorem w_c3 : (Jvm.Cond.code ({ cls := "com/example/nelira/nelira/ranking/ScorerConstants", name := "atLeastZero", desc := "(Ljava/lang/String;D)D" } : Jvm.MethodName) prog_62_method_2_code (3 : Nat) (Option.some Jvm.ClassFile.FieldType.double)).before args0 about1 = true := code_word (m := ⟨12, 1⟩) (meth := k12m1) (c := k12c1) (by decide +kernel) rfl rfl rfl (by decide +kernel)
set_option maxRecDepth 65536 in
theorem w_c4 : (Jvm.Cond.code ({ cls := "java/lang/Double", name := "isFinite", desc := "(D)Z" } : Jvm.MethodName) jdk_117_method_8_code (2 : Nat) (Option.some Jvm.ClassFile.FieldType.boolean)).before args0 about1 = true := code_word (m := ⟨14, 0⟩) (meth := k14m0) (c := k14c0) (by decide +kernel) rfl rfl rfl (by decide +kernel)
set_option maxRecDepth 65536 in
theorem w_c5 : (Jvm.Cond.code ({ cls := "java/lang/Math", name := "abs", desc := "(D)D" } : Jvm.MethodName) jdk_29_method_64_code (2 : Nat) (Option.some Jvm.ClassFile.FieldType.double)).before args0 about1 = true := code_word (m := ⟨15, 1⟩) (meth := k15m1) (c := k15c1) (by decide +kernel) rfl rfl rfl (by decide +kernel)
set_option maxRecDepth 65536 in
theorem w_c6 : (Jvm.Cond.code ({ cls := "com/example/nelira/nelira/ranking/ScorerConstants", name := "zeroToOne", desc := "(Ljava/lang/String;D)D" } : Jvm.MethodName) prog_62_method_3_code (3 : Nat) (Option.some Jvm.ClassFile.FieldType.double)).before args0 about1 = true := code_word (m := ⟨12, 2⟩) (meth := k12m2) (c := k12c2) (by decide +kernel) rfl rfl rfl (by decide +kernel)
set_option maxRecDepth 65536 in
theorem w_c7 : (Jvm.Cond.code ({ cls := "com/example/nelira/nelira/ranking/Bm25", name := "norm", desc := "(ID)D" } : Jvm.MethodName) prog_44_method_6_code (4 : Nat) (Option.some Jvm.ClassFile.FieldType.double)).before args0 about1 = true := code_word (m := ⟨8, 1⟩) (meth := k8m1) (c := k8c1) (by decide +kernel) rfl rfl rfl (by decide +kernel)
set_option maxRecDepth 65536 in
theorem w_c8 : (Jvm.Cond.code ({ cls := "com/example/nelira/nelira/ranking/Bm25", name := "lengthNorm", desc := "(DDID)D" } : Jvm.MethodName) prog_44_method_8_code (7 : Nat) (Option.some Jvm.ClassFile.FieldType.double)).before args0 about1 = true := code_word (m := ⟨8, 2⟩) (meth := k8m2) (c := k8c2) (by decide +kernel) rfl rfl rfl (by decide +kernel)
def codes1 : List Jvm.Cond := [Jvm.Cond.code x code maxLocals ret, Jvm.Cond.code ({ cls := "com/example/nelira/nelira/ranking/Bm25", name := "<init>", desc := "(DDLcom/example/nelira/nelira/ranking/Bm25$Idf;)V" } : Jvm.MethodName) prog_44_method_1_code (6 : Nat) (Option.none : Option Jvm.ClassFile.FieldType), Jvm.Cond.code ({ cls := "java/lang/Object", name := "<init>", desc := "()V" } : Jvm.MethodName) object_method_1_code (1 : Nat) (Option.none : Option Jvm.ClassFile.FieldType), Jvm.Cond.code ({ cls := "com/example/nelira/nelira/ranking/ScorerConstants", name := "atLeastZero", desc := "(Ljava/lang/String;D)D" } : Jvm.MethodName) prog_62_method_2_code (3 : Nat) (Option.some Jvm.ClassFile.FieldType.double), Jvm.Cond.code ({ cls := "java/lang/Double", name := "isFinite", desc := "(D)Z" } : Jvm.MethodName) jdk_117_method_8_code (2 : Nat) (Option.some Jvm.ClassFile.FieldType.boolean), Jvm.Cond.code ({ cls := "java/lang/Math", name := "abs", desc := "(D)D" } : Jvm.MethodName) jdk_29_method_64_code (2 : Nat) (Option.some Jvm.ClassFile.FieldType.double), Jvm.Cond.code ({ cls := "com/example/nelira/nelira/ranking/ScorerConstants", name := "zeroToOne", desc := "(Ljava/lang/String;D)D" } : Jvm.MethodName) prog_62_method_3_code (3 : Nat) (Option.some Jvm.ClassFile.FieldType.double), Jvm.Cond.code ({ cls := "com/example/nelira/nelira/ranking/Bm25", name := "norm", desc := "(ID)D" } : Jvm.MethodName) prog_44_method_6_code (4 : Nat) (Option.some Jvm.ClassFile.FieldType.double), Jvm.Cond.code ({ cls := "com/example/nelira/nelira/ranking/Bm25", name := "lengthNorm", desc := "(DDID)D" } : Jvm.MethodName) prog_44_method_8_code (7 : Nat) (Option.some Jvm.ClassFile.FieldType.double)]
set_option maxRecDepth 65536 in
theorem codes_eq : words1.filter isCode = codes1 := rfl
theorem w_codes : ∀ c ∈ words1.filter isCode, c.before args0 about1 = true := by
  rw [codes_eq]
  intro c hc
  simp only [codes1, List.mem_cons, List.not_mem_nil, or_false] at hc
  rcases hc with rfl | rfl | rfl | rfl | rfl | rfl | rfl | rfl | rfl
  · exact w_c0
  · exact w_c1
  · exact w_c2
  · exact w_c3
  · exact w_c4
  · exact w_c5
  · exact w_c6
  · exact w_c7
  · exact w_c8
set_option maxRecDepth 65536 in
theorem w_t1 : (words1.take 24).all (fun c => isCode c || c.before args0 about1) = true := by decide +kernel
set_option maxRecDepth 65536 in
theorem w_t2 : ((words1.drop 24).take 24).all (fun c => isCode c || c.before args0 about1) = true := by decide +kernel
set_option maxRecDepth 65536 in
theorem w_t3 : ((words1.drop 24).drop 24).all (fun c => isCode c || c.before args0 about1) = true := by decide +kernel
theorem w_tables : (allAtoms (Jvm.Cond.code x code maxLocals ret :: tables_1)).before args0 about1 = true := by
  rw [allAtoms_all]
  show words1.all (fun c => c.before args0 about1) = true
  refine all_split ?_ w_codes
  rw [← List.take_append_drop 24 words1, List.all_append, w_t1, ← List.take_append_drop 24 (words1.drop 24), List.all_append, w_t2, w_t3]
  rfl
set_option maxRecDepth 65536 in
theorem w_case : (Jvm.Cond.and given_1 narrow_1).before args0 about1 = true := by decide +kernel
theorem w_applies : (headSpec (Jvm.Cond.code x code maxLocals ret :: tables_1) room_1).applies x e0.platform about1 = true :=
  (Spec.applies_iff w_frames).mpr ⟨w_running, w_runnable, w_alone, w_named, w_hears, w_ripe, w_room, w_tables⟩
theorem atStart : AtStart classFile x code maxLocals ret World_1 tables_1 room_1 Calls_1 rest_1 Pre_1 launch0 p0 e0 about1 theMethod args0 below0 :=
  ⟨lists_1, trivial, launch0.admits_env _ _ _, launch0.least_env, fairChoices_fair.cas, fairChoices_fair.clock, w_frames, w_args, w_heap, w_applies, trivial, trivial, w_case⟩
end start1
theorem witness_1 : WitnessClaimed_1 := ⟨start1.p0, start1.e0, start1.about1, start1.theMethod, start1.args0, start1.below0, start1.atStart⟩
end Jvm.Pilot.@@N@@
