import JvmDerived
import JvmDerived.Pilot.@@N@@Statement
import JvmDerived.Pilot.@@N@@Code
set_option linter.unusedVariables false
set_option linter.unusedSimpArgs false
namespace Jvm.RoadKit
open Sem ClassFile Op Lib Jvm.Stand Jvm.Free Jvm.LawKit
section Own
variable {p : Program} {l : Launch} {e : Env} {R : Room} {s : State} {m : MethodId} {args : Array Value} {below : List Frame} {meth : Method} {c : Code} {T : State} {locs : List Loc} {cells slots : Nat}
theorem own_ni0 {a : Addr} : a ∉ ([] : List Addr) := List.not_mem_nil
theorem own_niS {a b : Addr} {ws : List Addr} (h : a ≠ b) (r : a ∉ ws) : a ∉ b :: ws := fun q => (List.mem_cons.mp q).elim h r
theorem own_all0 {P : Addr → Prop} : ∀ x ∈ ([] : List Addr), P x := fun _ q => nomatch q
theorem own_allS {P : Addr → Prop} {b : Addr} {ws : List Addr} (h : P b) (r : ∀ x ∈ ws, P x) : ∀ x ∈ b :: ws, P x := fun x q => (List.mem_cons.mp q).elim (fun e => e ▸ h) (r x)
theorem own_lremM {g : JFrame} {target : State} (X : Stand p l e R s m args below meth c T locs cells slots) (hx : p.tables.exec = Jvm.exec) (hg : g.method = m) {x y : Int64} {rest : List Value} (hd : decode c.code g.pc = .ok (.lrem, 1)) (hs : g.stack = .long y :: .long x :: rest) (hy : y ≠ 0)
    (hr : Steps p.tables e below (T.setTop { g with pc := g.pc + 1, stack := .long (x % y) :: rest }) target) : Steps p.tables e below (T.setTop g) target :=
  XS.lrem X.here hx hg hd hs hy (by rw [lrem_mod]; exact hr)
end Own
end Jvm.RoadKit
namespace Jvm.RoadKit
open Sem ClassFile Op Lib Jvm.Stand Jvm.Free Jvm.LawKit
section OwnN
variable {p : Program} {l : Launch} {e : Env} {R : Room} {s : State} {m : MethodId} {args : Array Value} {below : List Frame} {meth : Method} {c : Code} {T : State} {locs : List Loc} {cells slots : Nat} {Z : State} {h : Heap}
/-- Double.doubleToRawLongBits: its payer's answer as one step -/
theorem own_bits (X : Stand p l e R s m args below meth c T locs cells slots) (hx : p.tables.exec = Jvm.exec) (hZ : Z.Warmed39 s.vm) {a0 : Array Value} {own : String} {index : Nat} (hown : s.vm.findClass own = some m.cls)
    (w1 : (Cond.methodLink own index ⟨"java/lang/Double", "doubleToRawLongBits", "(D)J"⟩).before a0 Z = true) (w2 : (Cond.static ⟨"java/lang/Double", "doubleToRawLongBits", "(D)J"⟩).before a0 Z = true) (w3 : (Cond.initialized "java/lang/Double").before a0 Z = true) (w4 : (Cond.native ⟨"java/lang/Double", "doubleToRawLongBits", "(D)J"⟩).before a0 Z = true)
    (eT : T.heap = h) {W : Nat} {g : JFrame} (hg : g.method = m) (hsize : g.locals.size = c.maxLocals) {b : UInt64} {rest : List Value} (hst : g.stack = .double b :: rest) (hW : 2 * g.monitorRoom + (rest.map fun v => v.category).sum ≤ W)
    (hd : decode c.code g.pc = .ok (.invokestatic index, 3)) (hfr : 1 ≤ R.frames) (hlo : W + 15 ≤ R.locals) :
    ∃ T', Stand p l e R s m args below meth c T' locs cells slots ∧ T'.heap = h ∧ ∀ target, Steps p.tables e below (T'.setTop { g with pc := g.pc + 3, stack := .long b.toInt64 :: rest }) target → Steps p.tables e below (T.setTop g) target := by
  have n4 : (Cond.native ⟨"java/lang/Double", "doubleToRawLongBits", "(D)J"⟩).before args s = true := mvT hZ w4
  obtain ⟨mk, methM, hnamed, hmethM, -, -, -, hsig⟩ := Cond.native_spec n4
  have hpd : parseMethodDescriptor "(D)J" = some ⟨[.double], some .long⟩ := by decide +kernel
  obtain ⟨v, vm1, B, hW1, X', ⟨hB, hv⟩, st⟩ := Stand.staticBack (args := args) X hx hown (mvT hZ w1) (mvT hZ w2) (mvT hZ w3) hnamed hmethM hsig (by decide)
    (Jvm.Free.NT.DoubleBits.pays n4 (mvT hZ w2) hfr hlo) hg hsize (Steps.refl _) (argsL := [.double b]) (rest := rest) (lenOf hpd rfl) hst hW hd (fun _ _ => ⟨b, rfl⟩)
  have hv' := hv b rfl
  subst hB hv'
  exact ⟨_, X', eT, fun target k => st.trans k⟩
/-- a private instance method is its own choice -/
theorem own_selp {y : MethodName} {s : State} {args : Array Value} {n : Nat} (hy : y.cls ≠ "java/lang/invoke/MethodHandle" ∧ y.cls ≠ "java/lang/invoke/VarHandle")
    (h1 : (Cond.instantiable y.cls n).before args s = true) (h2 : (Cond.privateMethod y).before args s = true) (h3 : (Cond.instanceMethod y).before args s = true) : (Cond.selects y.cls y y).before args s = true := by
  obtain ⟨c, k, hc, hk, -, hab, -, -⟩ := Cond.instantiable_spec h1
  obtain ⟨mk, mt, hn, hm, -, -⟩ := Cond.instanceMethod_spec h3
  have hf : s.methodFound? y.cls y.name y.desc = some mk := State.methodFound?_of_named hn hy
  have hcl : mk.cls = c := Option.some.inj ((findClass_of_methodNamed hn).symm.trans hc)
  have hs : selectMethod {} s.vm c mk = .method mk := selectMethod_private hm (Cond.privateMethod_at h2 mk mt hn hm)
  simp only [Cond.before, Cond.holds, Cond.value, hc, hf, hn, hs, hcl, hk]
  simpa using (Bool.or_eq_false_iff.mp hab).1
end OwnN
end Jvm.RoadKit
namespace Jvm.OwnFP
open Jvm.FP Jvm.FP.Core Jvm.Free.Fl
/-- a double's worth, in units of the least positive double -/
def zv (x : UInt64) : Int := zval b64 (val64 x)
/-- x is finite and is the number i / D -/
def Ra (i : Int) (D : Nat) (x : UInt64) : Prop := DFin x ∧ zv x * (D : Int) = i * (one64 : Int)
theorem Ra.fin {i : Int} {D : Nat} {x : UInt64} (h : Ra i D x) : Fin64 x := fin64_core.mpr h.1
theorem Ra.nn {i : Int} {D : Nat} {x : UInt64} (h : Ra i D x) : NoNaN64 x := h.fin.noNaN
theorem Ra.ne_nan {i : Int} {D : Nat} {x : UInt64} (h : Ra i D x) : val64 x ≠ .nan := h.1.ne_nan
theorem oz : (0 : Int) < (one64 : Int) := Int.natCast_pos.mpr one64_pos
theorem nan_of {x : UInt64} (h : NoNaN64 x) : val64 x ≠ .nan := (notNaN_iff x).mp (noNaN64_no.mp h)
theorem mulc {a b c : Int} (hc : c ≠ 0) (h : a * c = b * c) : a = b := Int.eq_of_mul_eq_mul_right hc h
theorem al_scale {z D D' i i' o : Int} (h : z * D = i * o) (e : i * D' = i' * D) : z * D' * D = i' * o * D := by
  calc z * D' * D = z * D * D' := by ac_rfl
    _ = i * o * D' := by rw [h]
    _ = i * D' * o := by ac_rfl
    _ = i' * o * D := by rw [e]; ac_rfl
theorem al_mul {x y v D E i j o : Int} (hx : x * D = i * o) (hy : y * E = j * o) (hv : v * (D * E) = i * j * o) : x * y * (D * E) = v * o * (D * E) := by
  calc x * y * (D * E) = (x * D) * (y * E) := by ac_rfl
    _ = (i * o) * (j * o) := by rw [hx, hy]
    _ = (i * j * o) * o := by ac_rfl
    _ = v * (D * E) * o := by rw [hv]
    _ = v * o * (D * E) := by ac_rfl
theorem al_mulr {x y v D E F i j r o : Int} (hx : x * D = i * o) (hy : y * E = j * o) (hv : v * F = r * o) (h : i * j * F = r * (D * E)) : x * y * D * E * F = v * o * D * E * F := by
  calc x * y * D * E * F = (x * D) * (y * E) * F := by ac_rfl
    _ = (i * j * F) * (o * o) := by rw [hx, hy]; ac_rfl
    _ = (r * o) * o * (D * E) := by rw [h]; ac_rfl
    _ = (v * F) * o * (D * E) := by rw [hv]
    _ = v * o * D * E * F := by ac_rfl
theorem al_div {x y v D E F i j r o : Int} (hx : x * D = i * o) (hy : y * E = j * o) (hv : v * F = r * o) (h : i * E * F = r * (j * D)) : x * o * D * E * F = v * y * D * E * F := by
  calc x * o * D * E * F = (x * D) * (o * E * F) := by ac_rfl
    _ = (i * E * F) * (o * o) := by rw [hx]; ac_rfl
    _ = (r * o) * (j * o) * D := by rw [h]; ac_rfl
    _ = (v * F) * (y * E) * D := by rw [hv, hy]
    _ = v * y * D * E * F := by ac_rfl
theorem al_units {V d P Q : Nat} : V * P * d * Q = (V * (d * Q)) * P := by ac_rfl
theorem al_mag {i P D o : Nat} (h : i ≤ P * D) : i * o ≤ P * o * D := by
  calc i * o ≤ P * D * o := Nat.mul_le_mul_right _ h
    _ = P * o * D := by ac_rfl
theorem rep {i : Int} {D k : Nat} (hi : i.natAbs < 9007199254740992) (hD : D = 2 ^ k) (hk : k ≤ 1000) : ∃ V, Ra i D V := by
  have hc : i.natAbs < 2 ^ b64.p := by rw [show (2 : Nat) ^ b64.p = 9007199254740992 by decide +kernel]; exact hi
  have hq2 : b64.qmax = 971 := by decide
  obtain ⟨c', q', h1, h2⟩ := round_exact good_b64 (decide (i < 0)) (c := i.natAbs) (q := -(k : Int)) hc (by rw [qmin_b64]; omega) (by rw [hq2]; omega)
  refine ⟨of64 (round b64 (.fin (decide (i < 0)) i.natAbs (-(k : Int)))), ⟨_, _, _, by rw [val64_of64 (round_fits good_b64 _), h1]⟩, ?_⟩
  unfold zv
  rw [val64_of64 (round_fits good_b64 _), h1]
  show signed (decide (i < 0)) (inUnits c' q' b64.qmin) * _ = _
  rw [h2]
  unfold inUnits
  have e1 : signed (decide (i < 0)) i.natAbs = i := by unfold signed; by_cases h : i < 0 <;> simp [h] <;> omega
  have e2 : (-(k : Int) - b64.qmin).toNat + k = 1074 := by rw [qmin_b64]; omega
  rw [signed_mul, e1, Int.mul_assoc, hD, ← Int.natCast_mul, ← Nat.pow_add, e2]
  rfl
theorem fin_of {x V : UInt64} (hn : val64 x ≠ .nan) (hV : DFin V) (h : zv x = zv V) : DFin x := by
  cases hx : val64 x with
  | nan => exact absurd hx hn
  | fin s c q => exact ⟨s, c, q, hx⟩
  | inf s =>
    exfalso
    have h1 := hV.zval_lt
    unfold zv zval at h
    rw [hx] at h
    have h2 := congrArg Int.natAbs h
    rw [natAbs_signed, natAbs_signed] at h2
    exact absurd h2.symm (Nat.ne_of_lt h1)
theorem Ra.scale {i i' : Int} {D D' : Nat} {x : UInt64} (h : Ra i D x) (hD : 0 < D) (e : i * (D' : Int) = i' * (D : Int)) : Ra i' D' x := by
  exact ⟨h.1, mulc (c := (D : Int)) (by omega) (al_scale h.2 e)⟩
theorem Ra.same {i i' : Int} {D : Nat} {x : UInt64} (h : Ra i D x) (e : i = i') : Ra i' D x := e ▸ h
theorem Ra.add {i j : Int} {D k : Nat} {x y : UInt64} (hx : Ra i D x) (hy : Ra j D y) (h : (i + j).natAbs < 9007199254740992) (hD : D = 2 ^ k) (hk : k ≤ 1000) : Ra (i + j) D (FP.dadd x y) := by
  obtain ⟨V, hV⟩ := rep h hD hk
  have hD0 : (D : Int) ≠ 0 := by rw [hD]; exact Int.ne_of_gt (Int.natCast_pos.mpr (Nat.two_pow_pos k))
  have hs : zval b64 (val64 x) + zval b64 (val64 y) = zval b64 (val64 V) := mulc hD0 (by
    have a := hx.2; have b := hy.2; have c := hV.2
    unfold zv at a b c
    rw [Int.add_mul, a, b, c, Int.add_mul])
  have hz : zv (Core.dadd x y) = zv V := by
    unfold zv
    rw [val64_dadd]
    exact Int.le_antisymm (sum_le good_b64 hx.1 hy.1 (val64_fits x) (val64_fits y) (val64_fits V) hV.ne_nan (Int.le_of_eq hs)) (sum_ge good_b64 hx.1 hy.1 (val64_fits x) (val64_fits y) (val64_fits V) hV.ne_nan (Int.le_of_eq hs.symm))
  exact ⟨fin_of ((notNaN_iff _).mp (dadd_out hx.1.notNaN hy.1)) hV.1 hz, by show zv (Core.dadd x y) * _ = _; rw [hz, hV.2]⟩
theorem fin_negate {x : UInt64} (h : DFin x) : ∃ s c q, negate (val64 x) = .fin s c q := by
  obtain ⟨s, c, q, h⟩ := h; exact ⟨!s, c, q, by rw [h]; rfl⟩
theorem Ra.sub {i j : Int} {D k : Nat} {x y : UInt64} (hx : Ra i D x) (hy : Ra j D y) (h : (i - j).natAbs < 9007199254740992) (hD : D = 2 ^ k) (hk : k ≤ 1000) : Ra (i - j) D (FP.dsub x y) := by
  obtain ⟨V, hV⟩ := rep h hD hk
  have hD0 : (D : Int) ≠ 0 := by rw [hD]; exact Int.ne_of_gt (Int.natCast_pos.mpr (Nat.two_pow_pos k))
  have hs : zval b64 (val64 x) + zval b64 (negate (val64 y)) = zval b64 (val64 V) := mulc hD0 (by
    have a := hx.2; have b := hy.2; have c := hV.2
    unfold zv at a b c
    rw [zval_negate, Int.add_mul, Int.neg_mul, a, b, c, Int.sub_mul]
    omega)
  have hz : zv (Core.dsub x y) = zv V := by
    unfold zv
    rw [val64_dsub]
    exact Int.le_antisymm (sum_le good_b64 hx.1 (fin_negate hy.1) (val64_fits x) (negate_fits (val64_fits y)) (val64_fits V) hV.ne_nan (Int.le_of_eq hs)) (sum_ge good_b64 hx.1 (fin_negate hy.1) (val64_fits x) (negate_fits (val64_fits y)) (val64_fits V) hV.ne_nan (Int.le_of_eq hs.symm))
  exact ⟨fin_of ((notNaN_iff _).mp (dsub_out hx.1.notNaN hy.1)) hV.1 hz, by show zv (Core.dsub x y) * _ = _; rw [hz, hV.2]⟩
theorem qq : (b64.qmin - 2 * b64.qmin).toNat = (-b64.qmin).toNat := by rw [qmin_b64]; decide
/-- a product, held against a double -/
theorem mul_le {x y V : UInt64} (hx : DFin x) (hy : DFin y) (hV : val64 V ≠ .nan) (h : zv x * zv y ≤ zv V * (one64 : Int)) : zv (Core.dmul x y) ≤ zv V := by
  obtain ⟨s, c, q, ex⟩ := hx
  obtain ⟨t, d, r, ey⟩ := hy
  have fx := val64_fits x; have fy := val64_fits y
  rw [ex] at fx; rw [ey] at fy
  obtain ⟨p1, p2, p3⟩ := product_units fx fy
  unfold zv at h ⊢
  rw [val64_dmul, ex, ey, p1]
  rw [ex, ey] at h
  exact zval_round_le good_b64 (val64_fits V) hV (e0 := 2 * b64.qmin) (by rw [qmin_b64]; decide) p2 (by rw [p3, signed_xor, qq, pow_qmin64]; exact h)
theorem mul_ge {x y V : UInt64} (hx : DFin x) (hy : DFin y) (hV : val64 V ≠ .nan) (h : zv V * (one64 : Int) ≤ zv x * zv y) : zv V ≤ zv (Core.dmul x y) := by
  obtain ⟨s, c, q, ex⟩ := hx
  obtain ⟨t, d, r, ey⟩ := hy
  have fx := val64_fits x; have fy := val64_fits y
  rw [ex] at fx; rw [ey] at fy
  obtain ⟨p1, p2, p3⟩ := product_units fx fy
  unfold zv at h ⊢
  rw [val64_dmul, ex, ey, p1]
  rw [ex, ey] at h
  exact zval_round_ge good_b64 (val64_fits V) hV (e0 := 2 * b64.qmin) (by rw [qmin_b64]; decide) p2 (by rw [p3, signed_xor, qq, pow_qmin64]; exact h)
/-- the product's worth, where it is a double's -/
theorem mul_zv {x y V : UInt64} (hx : DFin x) (hy : DFin y) (hV : val64 V ≠ .nan) (h : zv x * zv y = zv V * (one64 : Int)) : zv (Core.dmul x y) = zv V :=
  Int.le_antisymm (mul_le hx hy hV (Int.le_of_eq h)) (mul_ge hx hy hV (Int.le_of_eq h.symm))
theorem Ra.mul {i j : Int} {D E k : Nat} {x y : UInt64} (hx : Ra i D x) (hy : Ra j E y) (h : (i * j).natAbs < 9007199254740992) (hD : D * E = 2 ^ k) (hk : k ≤ 1000) : Ra (i * j) (D * E) (FP.dmul x y) := by
  obtain ⟨V, hV⟩ := rep h hD hk
  have hD0 : ((D * E : Nat) : Int) ≠ 0 := by rw [hD]; exact Int.ne_of_gt (Int.natCast_pos.mpr (Nat.two_pow_pos k))
  have hv := hV.2
  rw [Int.natCast_mul] at hv hD0
  have hs : zv x * zv y = zv V * (one64 : Int) := mulc hD0 (al_mul hx.2 hy.2 hv)
  have hz : zv (Core.dmul x y) = zv V := mul_zv hx.1 hy.1 hV.ne_nan hs
  exact ⟨fin_of ((notNaN_iff _).mp (dmul_out hx.1 hy.1)) hV.1 hz, by show zv (Core.dmul x y) * _ = _; rw [hz, hV.2]⟩
/-- a product written in its least terms -/
theorem Ra.mulr {i j r : Int} {D E F k : Nat} {x y : UInt64} (hx : Ra i D x) (hy : Ra j E y) (hD : 0 < D) (hE : 0 < E) (hr : r.natAbs < 9007199254740992) (hF : F = 2 ^ k) (hk : k ≤ 1000) (h : i * j * (F : Int) = r * ((D : Int) * (E : Int))) : Ra r F (FP.dmul x y) := by
  obtain ⟨V, hV⟩ := rep hr hF hk
  have hF0 : (F : Int) ≠ 0 := by rw [hF]; exact Int.ne_of_gt (Int.natCast_pos.mpr (Nat.two_pow_pos k))
  have hs : zv x * zv y = zv V * (one64 : Int) := by
    exact mulc (c := (D : Int)) (by omega) (mulc (c := (E : Int)) (by omega) (mulc hF0 (al_mulr hx.2 hy.2 hV.2 h)))
  have hz : zv (Core.dmul x y) = zv V := mul_zv hx.1 hy.1 hV.ne_nan hs
  exact ⟨fin_of ((notNaN_iff _).mp (dmul_out hx.1 hy.1)) hV.1 hz, by show zv (Core.dmul x y) * _ = _; rw [hz, hV.2]⟩
theorem zv_abs (x : UInt64) : (zv x).natAbs = zmag b64 (val64 x) := by unfold zv zval; rw [natAbs_signed]
/-- the quotient's parts -/
theorem div_parts {x y : UInt64} (hx : DFin x) (hy : DFin y) (hz : zv y ≠ 0) : ∃ s t c d q r, val64 x = .fin s c q ∧ val64 y = .fin t d r ∧ 0 < d ∧ b64.qmin ≤ q ∧ b64.qmin ≤ r ∧ zmag b64 (val64 x) = c * 2 ^ (q - b64.qmin).toNat ∧ zmag b64 (val64 y) = d * 2 ^ (r - b64.qmin).toNat ∧ val64 (Core.ddiv x y) = roundRatio b64 (s != t) c d (q - r) := by
  obtain ⟨s, c, q, ex⟩ := hx
  obtain ⟨t, d, r, ey⟩ := hy
  have fx := val64_fits x; have fy := val64_fits y
  rw [ex] at fx; rw [ey] at fy
  have hd : d ≠ 0 := fun h => hz (by unfold zv; rw [ey, h]; simp [zval, zmag, sgn, inUnits, signed])
  refine ⟨s, t, c, d, q, r, ex, ey, Nat.pos_of_ne_zero hd, fx.2.1, fy.2.1, by rw [ex]; rfl, by rw [ey]; rfl, ?_⟩
  rw [val64_ddiv, ex, ey]
  show (if d = 0 then _ else roundRatio b64 (s != t) c d (q - r)) = _
  rw [if_neg hd]
theorem div_units {c d V : Nat} {q r e : Int} (hq : b64.qmin ≤ q) (hr : b64.qmin ≤ r) (h1 : e ≤ b64.qmin) (h2 : e ≤ q - r) :
    inUnits c (q - r) e * 2 ^ (r - b64.qmin).toNat = (c * 2 ^ (q - b64.qmin).toNat * one64) * 2 ^ (b64.qmin - e).toNat ∧
      V * 2 ^ (b64.qmin - e).toNat * d * 2 ^ (r - b64.qmin).toNat = (V * (d * 2 ^ (r - b64.qmin).toNat)) * 2 ^ (b64.qmin - e).toNat := by
  refine ⟨?_, al_units⟩
  have hn : b64.qmin < 0 := by rw [qmin_b64]; decide
  unfold inUnits
  rw [← pow_qmin64, Nat.mul_assoc, Nat.mul_assoc, Nat.mul_assoc, ← Nat.pow_add, ← Nat.pow_add, ← Nat.pow_add]
  congr 2
  omega
theorem div_mag_le {x y V : UInt64} (hx : DFin x) (hy : DFin y) (hz : zv y ≠ 0) (hV : val64 V ≠ .nan) (h : (zv x).natAbs * one64 ≤ (zv V).natAbs * (zv y).natAbs) : (zv (Core.ddiv x y)).natAbs ≤ (zv V).natAbs := by
  obtain ⟨s, t, c, d, q, r, ex, ey, hd, hq, hr, mx, my, hv⟩ := div_parts hx hy hz
  rw [zv_abs, zv_abs, hv]
  rw [zv_abs, zv_abs, zv_abs, mx, my] at h
  refine zmag_roundRatio_le good_b64 hd (val64_fits V) hV (e0 := min b64.qmin (q - r)) (by omega) (by omega) ?_
  obtain ⟨u1, u2⟩ := div_units (c := c) (d := d) (V := zmag b64 (val64 V)) hq hr (e := min b64.qmin (q - r)) (by omega) (by omega)
  refine Nat.le_of_mul_le_mul_right (c := 2 ^ (r - b64.qmin).toNat) ?_ (Nat.two_pow_pos _)
  rw [u1, u2]
  exact Nat.mul_le_mul_right _ h
theorem div_mag_ge {x y V : UInt64} (hx : DFin x) (hy : DFin y) (hz : zv y ≠ 0) (h : (zv V).natAbs * (zv y).natAbs ≤ (zv x).natAbs * one64) : (zv V).natAbs ≤ (zv (Core.ddiv x y)).natAbs := by
  obtain ⟨s, t, c, d, q, r, ex, ey, hd, hq, hr, mx, my, hv⟩ := div_parts hx hy hz
  rw [zv_abs, zv_abs, hv]
  rw [zv_abs, zv_abs, zv_abs, mx, my] at h
  refine zmag_roundRatio_ge good_b64 hd (val64_fits V) (e0 := min b64.qmin (q - r)) (by omega) (by omega) ?_
  obtain ⟨u1, u2⟩ := div_units (c := c) (d := d) (V := zmag b64 (val64 V)) hq hr (e := min b64.qmin (q - r)) (by omega) (by omega)
  refine Nat.le_of_mul_le_mul_right (c := 2 ^ (r - b64.qmin).toNat) ?_ (Nat.two_pow_pos _)
  rw [u1, u2]
  exact Nat.mul_le_mul_right _ h
theorem zv_sgn (x : UInt64) : zv x = signed (sgn (val64 x)) (zv x).natAbs := by rw [zv_abs]; rfl
theorem div_sgn {x y : UInt64} (hx : DFin x) (hy : DFin y) (hz : zv y ≠ 0) : sgn (val64 (Core.ddiv x y)) = (sgn (val64 x) != sgn (val64 y)) := by
  obtain ⟨s, t, c, d, q, r, ex, ey, -, -, -, -, -, hv⟩ := div_parts hx hy hz
  rw [hv, sgn_roundRatio, ex, ey]; rfl
theorem sgn_pos {x : UInt64} (h : 0 < zv x) : sgn (val64 x) = false := by
  rw [zv_sgn] at h
  cases hs : sgn (val64 x) with
  | false => rfl
  | true => rw [hs] at h; simp [signed] at h; omega
theorem div_nonneg {x y : UInt64} (hx : DFin x) (hy : DFin y) (h1 : 0 < zv x) (h2 : 0 < zv y) : zv (Core.ddiv x y) = ((zv (Core.ddiv x y)).natAbs : Int) := by
  have h := div_sgn hx hy (Int.ne_of_gt h2)
  rw [sgn_pos h1, sgn_pos h2] at h
  rw [zv_sgn (Core.ddiv x y), h]; simp [signed]
theorem div_ge {x y V : UInt64} (hx : DFin x) (hy : DFin y) (h1 : 0 < zv x) (h2 : 0 < zv y) (hV : 0 ≤ zv V) (h : zv V * zv y ≤ zv x * (one64 : Int)) : zv V ≤ zv (Core.ddiv x y) := by
  have k : (zv V).natAbs * (zv y).natAbs ≤ (zv x).natAbs * one64 := by
    have e1 : ((zv V).natAbs : Int) = zv V := by omega
    have e2 : ((zv y).natAbs : Int) = zv y := by omega
    have e3 : ((zv x).natAbs : Int) = zv x := by omega
    refine Int.ofNat_le.mp ?_
    rw [Int.natCast_mul, Int.natCast_mul, e1, e2, e3]; exact h
  have := div_mag_ge hx hy (Int.ne_of_gt h2) k
  rw [div_nonneg hx hy h1 h2]; omega
theorem div_le {x y V : UInt64} (hx : DFin x) (hy : DFin y) (h1 : 0 < zv x) (h2 : 0 < zv y) (hn : val64 V ≠ .nan) (hV : 0 ≤ zv V) (h : zv x * (one64 : Int) ≤ zv V * zv y) : zv (Core.ddiv x y) ≤ zv V := by
  have k : (zv x).natAbs * one64 ≤ (zv V).natAbs * (zv y).natAbs := by
    have e1 : ((zv V).natAbs : Int) = zv V := by omega
    have e2 : ((zv y).natAbs : Int) = zv y := by omega
    have e3 : ((zv x).natAbs : Int) = zv x := by omega
    refine Int.ofNat_le.mp ?_
    rw [Int.natCast_mul, Int.natCast_mul, e1, e2, e3]; exact h
  have := div_mag_le hx hy (Int.ne_of_gt h2) hn k
  rw [div_nonneg hx hy h1 h2]; omega
theorem signed_inj {s t : Bool} {n : Nat} (hn : n ≠ 0) (h : signed s n = signed t n) : s = t := by
  cases s <;> cases t <;> simp [signed] at h ⊢ <;> omega
theorem xor_back {s t v : Bool} (h : s = (v != t)) : (s != t) = v := by cases s <;> cases t <;> cases v <;> simp_all
/-- the quotient's worth, where it is a double's -/
theorem div_zv {x y V : UInt64} (hx : DFin x) (hy : DFin y) (hz : zv y ≠ 0) (hV : DFin V) (h : zv x * (one64 : Int) = zv V * zv y) : zv (Core.ddiv x y) = zv V := by
  have ha : (zv x).natAbs * one64 = (zv V).natAbs * (zv y).natAbs := by
    have := congrArg Int.natAbs h
    rwa [Int.natAbs_mul, Int.natAbs_mul, Int.natAbs_natCast] at this
  have hm : (zv (Core.ddiv x y)).natAbs = (zv V).natAbs := Nat.le_antisymm (div_mag_le hx hy hz hV.ne_nan (Nat.le_of_eq ha)) (div_mag_ge hx hy hz (Nat.le_of_eq ha.symm))
  rw [zv_sgn (Core.ddiv x y), hm, div_sgn hx hy hz]
  by_cases h0 : (zv V).natAbs = 0
  · rw [h0, Int.natAbs_eq_zero.mp h0]; exact signed_zero _
  · have k : signed (sgn (val64 x)) ((zv x).natAbs * one64) = zv x * (one64 : Int) := by rw [signed_mul, ← zv_sgn]
    rw [ha] at k
    have k2 : signed (sgn (val64 V) != sgn (val64 y)) ((zv V).natAbs * (zv y).natAbs) = zv V * zv y := by rw [signed_xor, ← zv_sgn, ← zv_sgn]
    have e := xor_back (signed_inj (n := (zv V).natAbs * (zv y).natAbs) (Nat.mul_ne_zero h0 (fun q => hz (Int.natAbs_eq_zero.mp q))) (k.trans (h.trans k2.symm)))
    rw [e, ← zv_sgn]
theorem Ra.div {i j r : Int} {D E F k : Nat} {x y : UInt64} (hx : Ra i D x) (hy : Ra j E y) (hD : 0 < D) (hE : 0 < E) (hj : j ≠ 0) (hr : r.natAbs < 9007199254740992) (hF : F = 2 ^ k) (hk : k ≤ 1000) (h : i * (E : Int) * (F : Int) = r * (j * (D : Int))) : Ra r F (FP.ddiv x y) := by
  obtain ⟨V, hV⟩ := rep hr hF hk
  have hF0 : (F : Int) ≠ 0 := by rw [hF]; exact Int.ne_of_gt (Int.natCast_pos.mpr (Nat.two_pow_pos k))
  have hy0 : zv y ≠ 0 := fun q => by
    have := hy.2; rw [q, Int.zero_mul] at this
    exact (Int.mul_ne_zero hj (Int.ne_of_gt oz)) this.symm
  have hs : zv x * (one64 : Int) = zv V * zv y := by
    exact mulc (c := (D : Int)) (by omega) (mulc (c := (E : Int)) (by omega) (mulc hF0 (al_div hx.2 hy.2 hV.2 h)))
  have hz : zv (Core.ddiv x y) = zv V := div_zv hx.1 hy.1 hy0 hV.1 hs
  have hyz : ¬ DZero y := fun q => hy0 (by unfold zv; exact DZero.zval q)
  exact ⟨fin_of ((notNaN_iff _).mp (ddiv_out hx.1.notNaN hy.1 hyz)) hV.1 hz, by show zv (Core.ddiv x y) * _ = _; rw [hz, hV.2]⟩
/-- two quotients of one ratio are of one worth -/
theorem div_alike {x y x' y' : UInt64} (hx : DFin x) (hy : DFin y) (hx' : DFin x') (hy' : DFin y') (hz : zv y ≠ 0) (hz' : zv y' ≠ 0) (h : zv x * zv y' = zv x' * zv y) : zv (Core.ddiv x y) = zv (Core.ddiv x' y') := by
  have ha : (zv x).natAbs * (zv y').natAbs = (zv x').natAbs * (zv y).natAbs := by
    have := congrArg Int.natAbs h
    rwa [Int.natAbs_mul, Int.natAbs_mul] at this
  have hsg := div_sgn hx hy hz
  have hsg' := div_sgn hx' hy' hz'
  obtain ⟨s, t, c, d, q, r, ex, ey, hd, hq, hr, mx, my, hv⟩ := div_parts hx hy hz
  obtain ⟨s', t', c', d', q', r', ex', ey', hd', hq', hr', mx', my', hv'⟩ := div_parts hx' hy' hz'
  have hm : (zv (Core.ddiv x y)).natAbs = (zv (Core.ddiv x' y')).natAbs := by
    rw [zv_abs, zv_abs, zv_abs, zv_abs, mx, my, mx', my'] at ha
    rw [zv_abs, zv_abs, hv, hv']
    have e : roundRatio b64 (s != t) c d (q - r) = roundRatio b64 (s != t) c' d' (q' - r') := by
      refine roundRatio_congr hd hd' ?_
      have g1 : ∃ T, (q - b64.qmin).toNat + (r' - b64.qmin).toNat = (q - r - (q' - r')).toNat + T ∧ (q' - b64.qmin).toNat + (r - b64.qmin).toNat = (q' - r' - (q - r)).toNat + T := ⟨(min ((q - b64.qmin) + (r' - b64.qmin)) ((q' - b64.qmin) + (r - b64.qmin))).toNat, by omega, by omega⟩
      obtain ⟨T, g1, g2⟩ := g1
      refine Nat.eq_of_mul_eq_mul_right (Nat.two_pow_pos T) ?_
      calc c * d' * 2 ^ (q - r - (q' - r')).toNat * 2 ^ T = (c * 2 ^ (q - b64.qmin).toNat) * (d' * 2 ^ (r' - b64.qmin).toNat) := by rw [Nat.mul_assoc, ← Nat.pow_add, ← g1, Nat.pow_add]; ac_rfl
        _ = (c' * 2 ^ (q' - b64.qmin).toNat) * (d * 2 ^ (r - b64.qmin).toNat) := ha
        _ = c' * d * 2 ^ (q' - r' - (q - r)).toNat * 2 ^ T := by rw [Nat.mul_assoc (c' * d), ← Nat.pow_add, ← g2, Nat.pow_add]; ac_rfl
    rw [e]
    rcases roundRatio_cases b64 (s != t) c' d' (q' - r') with ⟨a, b, g⟩ | g <;> rcases roundRatio_cases b64 (s' != t') c' d' (q' - r') with ⟨a', b', g'⟩ | g'
    all_goals first
      | (have := negate_roundRatio b64 (s' != t') c' d' (q' - r')
         by_cases w : (s != t) = (s' != t')
         · rw [w]
         · rw [show (s != t) = !(s' != t') by cases s <;> cases t <;> cases s' <;> cases t' <;> simp_all, ← this]
           rw [g']; rfl)
  rw [zv_sgn (Core.ddiv x y), zv_sgn (Core.ddiv x' y'), hm, hsg, hsg']
  by_cases h0 : (zv (Core.ddiv x' y')).natAbs = 0
  · rw [h0, signed_zero, signed_zero]
  · by_cases hx0 : (zv x').natAbs = 0
    · exfalso; apply h0
      have := div_mag_le (V := (0 : UInt64)) hx' hy' hz' (by rw [val64_zero]; exact Datum.noConfusion) (by rw [hx0, Nat.zero_mul]; exact Nat.zero_le _)
      have z0 : zv 0 = 0 := zval64_zero
      rw [z0] at this; simpa using this
    · congr 1
      have hy1 : (zv y).natAbs ≠ 0 := fun q => hz (Int.natAbs_eq_zero.mp q)
      have k : signed (sgn (val64 x) != sgn (val64 y')) ((zv x').natAbs * (zv y).natAbs) = signed (sgn (val64 x') != sgn (val64 y)) ((zv x').natAbs * (zv y).natAbs) := by
        rw [← ha, signed_xor, ha, signed_xor, ← zv_sgn, ← zv_sgn, ← zv_sgn, ← zv_sgn]; exact h
      have k2 := signed_inj (Nat.mul_ne_zero hx0 hy1) k
      revert k2
      generalize sgn (val64 x) = a; generalize sgn (val64 y) = b; generalize sgn (val64 x') = a'; generalize sgn (val64 y') = b'
      cases a <;> cases b <;> cases a' <;> cases b' <;> simp
/-- comparisons -/
theorem cv_lt {x y : UInt64} (nx : val64 x ≠ .nan) (ny : val64 y ≠ .nan) (h : zv x < zv y) (o : Jvm.ClassFile.CmpOp) : Jvm.Op.cmpValue (FP.dcmp x y) o = -1 := by
  rw [show FP.dcmp x y = some .lt from dcmp_lt.mpr ⟨nx, ny, h⟩]; cases o <;> rfl
theorem cv_eq {x y : UInt64} (nx : val64 x ≠ .nan) (ny : val64 y ≠ .nan) (h : zv x = zv y) (o : Jvm.ClassFile.CmpOp) : Jvm.Op.cmpValue (FP.dcmp x y) o = 0 := by
  rw [show FP.dcmp x y = some .eq from dcmp_eq.mpr ⟨nx, ny, h⟩]; cases o <;> rfl
theorem cv_gt {x y : UInt64} (nx : val64 x ≠ .nan) (ny : val64 y ≠ .nan) (h : zv y < zv x) (o : Jvm.ClassFile.CmpOp) : Jvm.Op.cmpValue (FP.dcmp x y) o = 1 := by
  rw [show FP.dcmp x y = some .gt from dcmp_gt.mpr ⟨nx, ny, h⟩]; cases o <;> rfl
theorem cv_le {x y : UInt64} (nx : val64 x ≠ .nan) (ny : val64 y ≠ .nan) (h : zv x ≤ zv y) (o : Jvm.ClassFile.CmpOp) : ¬ (0 : Int32) < Jvm.Op.cmpValue (FP.dcmp x y) o := by
  rcases Int.lt_or_eq_of_le h with q | q
  · rw [cv_lt nx ny q]; decide
  · rw [cv_eq nx ny q]; decide
theorem cv_ge {x y : UInt64} (nx : val64 x ≠ .nan) (ny : val64 y ≠ .nan) (h : zv y ≤ zv x) (o : Jvm.ClassFile.CmpOp) : ¬ Jvm.Op.cmpValue (FP.dcmp x y) o < (0 : Int32) := by
  rcases Int.lt_or_eq_of_le h with q | q
  · rw [cv_gt nx ny q]; decide
  · rw [cv_eq nx ny q.symm]; decide
theorem cv_lt' {x y : UInt64} (nx : val64 x ≠ .nan) (ny : val64 y ≠ .nan) (h : zv x < zv y) (o : Jvm.ClassFile.CmpOp) : Jvm.Op.cmpValue (FP.dcmp x y) o < (0 : Int32) := by rw [cv_lt nx ny h]; decide
theorem cv_gt' {x y : UInt64} (nx : val64 x ≠ .nan) (ny : val64 y ≠ .nan) (h : zv y < zv x) (o : Jvm.ClassFile.CmpOp) : (0 : Int32) < Jvm.Op.cmpValue (FP.dcmp x y) o := by rw [cv_gt nx ny h]; decide
theorem zv_lt {i j : Int} {D : Nat} {x y : UInt64} (hx : Ra i D x) (hy : Ra j D y) (hD : 0 < D) (h : i < j) : zv x < zv y := by
  refine Int.lt_of_mul_lt_mul_right (a := (D : Int)) ?_ (by omega)
  rw [hx.2, hy.2]; exact Int.mul_lt_mul_of_pos_right h oz
theorem zv_eq {i j : Int} {D : Nat} {x y : UInt64} (hx : Ra i D x) (hy : Ra j D y) (hD : 0 < D) (h : i = j) : zv x = zv y :=
  mulc (c := (D : Int)) (by omega) (by rw [hx.2, hy.2, h])
theorem Ra.lt {i j : Int} {D : Nat} {x y : UInt64} (hx : Ra i D x) (hy : Ra j D y) (hD : 0 < D) (h : i < j) (o : Jvm.ClassFile.CmpOp) : Jvm.Op.cmpValue (FP.dcmp x y) o = -1 := cv_lt hx.ne_nan hy.ne_nan (zv_lt hx hy hD h) o
theorem Ra.gt {i j : Int} {D : Nat} {x y : UInt64} (hx : Ra i D x) (hy : Ra j D y) (hD : 0 < D) (h : j < i) (o : Jvm.ClassFile.CmpOp) : Jvm.Op.cmpValue (FP.dcmp x y) o = 1 := cv_gt hx.ne_nan hy.ne_nan (zv_lt hy hx hD h) o
theorem Ra.eq {i j : Int} {D : Nat} {x y : UInt64} (hx : Ra i D x) (hy : Ra j D y) (hD : 0 < D) (h : i = j) (o : Jvm.ClassFile.CmpOp) : Jvm.Op.cmpValue (FP.dcmp x y) o = 0 := cv_eq hx.ne_nan hy.ne_nan (zv_eq hx hy hD h) o
theorem zv_le {i j : Int} {D : Nat} {x y : UInt64} (hx : Ra i D x) (hy : Ra j D y) (hD : 0 < D) (h : i ≤ j) : zv x ≤ zv y := by
  rcases Int.lt_or_eq_of_le h with q | q
  · exact Int.le_of_lt (zv_lt hx hy hD q)
  · exact Int.le_of_eq (zv_eq hx hy hD q)
theorem Ra.le {i j : Int} {D : Nat} {x y : UInt64} (hx : Ra i D x) (hy : Ra j D y) (hD : 0 < D) (h : i ≤ j) (o : Jvm.ClassFile.CmpOp) : ¬ (0 : Int32) < Jvm.Op.cmpValue (FP.dcmp x y) o := cv_le hx.ne_nan hy.ne_nan (zv_le hx hy hD h) o
theorem Ra.ge {i j : Int} {D : Nat} {x y : UInt64} (hx : Ra i D x) (hy : Ra j D y) (hD : 0 < D) (h : j ≤ i) (o : Jvm.ClassFile.CmpOp) : ¬ Jvm.Op.cmpValue (FP.dcmp x y) o < (0 : Int32) := cv_ge hx.ne_nan hy.ne_nan (zv_le hy hx hD h) o
theorem Ra.lt' {i j : Int} {D : Nat} {x y : UInt64} (hx : Ra i D x) (hy : Ra j D y) (hD : 0 < D) (h : i < j) (o : Jvm.ClassFile.CmpOp) : Jvm.Op.cmpValue (FP.dcmp x y) o < (0 : Int32) := cv_lt' hx.ne_nan hy.ne_nan (zv_lt hx hy hD h) o
theorem Ra.gt' {i j : Int} {D : Nat} {x y : UInt64} (hx : Ra i D x) (hy : Ra j D y) (hD : 0 < D) (h : j < i) (o : Jvm.ClassFile.CmpOp) : (0 : Int32) < Jvm.Op.cmpValue (FP.dcmp x y) o := cv_gt' hx.ne_nan hy.ne_nan (zv_lt hy hx hD h) o
theorem Ra.of_int {i : Int} {x : UInt64} (h : DInt i x) (hf : DFin x) : Ra i 1 x := ⟨hf, by show zval b64 (val64 x) * _ = _; rw [DInt_zval h]; show _ * (1 : Int) = _; rw [Int.mul_one]⟩
theorem Ra.i2d (a : Int32) : Ra a.toInt 1 (FP.i2d a) := Ra.of_int (i2d_int a) (Core.i2d_fin a)
theorem Ra.l2d {a : Int64} (h : a.toInt.natAbs ≤ 9007199254740992) : Ra a.toInt 1 (FP.l2d a) := Ra.of_int (l2d_int h) (Core.l2d_fin a)
/-- a written constant -/
theorem Ra.lit {x : UInt64} {s : Bool} {c D n : Nat} {q i : Int} {k : Nat} (h : val64 x = .fin s c q) (hD : D = 2 ^ k) (hq : q = -((k + n : Nat) : Int)) (hk : k + n ≤ 1074) (e : signed s c = i * ((2 ^ n : Nat) : Int)) : Ra i D x := by
  refine ⟨⟨s, c, q, h⟩, ?_⟩
  unfold zv
  rw [h]
  show signed s (inUnits c q b64.qmin) * _ = _
  unfold inUnits
  have e2 : n + (q - b64.qmin).toNat + k = 1074 := by rw [qmin_b64]; omega
  rw [signed_mul, e, hD, Int.mul_assoc, Int.mul_assoc, ← Int.natCast_mul, ← Int.natCast_mul, ← Nat.pow_add, ← Nat.pow_add, ← Nat.add_assoc, e2]
  rfl
theorem zv_neg (x : UInt64) : zv (FP.dneg x) = -zv x := by unfold zv; rw [Jvm.FP.val64_dneg, zval_negate]
theorem Ra.neg {i : Int} {D : Nat} {x : UInt64} (h : Ra i D x) : Ra (-i) D (FP.dneg x) := by
  obtain ⟨⟨s, c, q, ex⟩, e⟩ := h
  exact ⟨⟨!s, c, q, by rw [Jvm.FP.val64_dneg, ex]; rfl⟩, by rw [zv_neg, Int.neg_mul, e, Int.neg_mul]⟩
/-- exact products of longs -/
theorem lmul_of {x y : Int64} {a b : Int} (hx : x.toInt = a) (hy : y.toInt = b) (h1 : -9223372036854775808 ≤ a * b) (h2 : a * b < 9223372036854775808) : (x * y).toInt = a * b := by
  rw [int64_mul (by rw [hx, hy]; exact h1) (by rw [hx, hy]; exact h2), hx, hy]
theorem ladd_of {x y : Int64} {a b : Int} (hx : x.toInt = a) (hy : y.toInt = b) (h1 : -9223372036854775808 ≤ a + b) (h2 : a + b < 9223372036854775808) : (x + y).toInt = a + b := by
  rw [int64_add (by rw [hx, hy]; exact h1) (by rw [hx, hy]; exact h2), hx, hy]
theorem lsub_of {x y : Int64} {a b : Int} (hx : x.toInt = a) (hy : y.toInt = b) (h1 : -9223372036854775808 ≤ a - b) (h2 : a - b < 9223372036854775808) : (x - y).toInt = a - b := by
  rw [int64_sub (by rw [hx, hy]; exact h1) (by rw [hx, hy]; exact h2), hx, hy]
theorem lneg_of {x : Int64} {a : Int} (hx : x.toInt = a) (h1 : -9223372036854775808 < a) : (-x).toInt = -a := by
  rw [int64_neg (by rw [hx]; exact h1), hx]
theorem i2l_of {x : Int32} {a : Int} (hx : x.toInt = a) : x.toInt64.toInt = a := by rw [Int32.toInt_toInt64, hx]
theorem fin_of_le {x V : UInt64} (hn : val64 x ≠ .nan) (hV : DFin V) (h : (zv x).natAbs ≤ (zv V).natAbs) : DFin x := by
  cases hx : val64 x with
  | nan => exact absurd hx hn
  | fin s c q => exact ⟨s, c, q, hx⟩
  | inf s =>
    exfalso
    have h1 := hV.zval_lt
    rw [zv_abs, zv_abs, hx] at h
    exact absurd (Nat.lt_of_le_of_lt h h1) (Nat.lt_irrefl _)
/-- a bound on the worth bounds the bits -/
theorem mag_of {x : UInt64} {n : Nat} (hx : DFin x) (h : (zv x).natAbs ≤ 2 ^ n * one64) : Mag64 (n + 1024) x := by
  have z := zmag_bits hx.ne_nan
  rw [zv_abs, z] at h
  have hs : unitsOf b64 ((n + 1024) * b64.tails) = b64.tails * 2 ^ (n + 1024 - 1) := unitsOf_start (by omega)
  have ho : 2 ^ n * one64 < b64.tails * 2 ^ (n + 1024 - 1) := by
    rw [tails_b64, ← pow_qmin64, ← Nat.pow_add, ← Nat.pow_add, qmin_b64]
    exact Nat.pow_lt_pow_right (by decide) (by omega)
  have hl : unitsOf b64 (x.toNat % 2 ^ 63) < unitsOf b64 ((n + 1024) * b64.tails) := by rw [hs]; exact Nat.lt_of_le_of_lt h ho
  have hb := unitsOf_lt_iff.mp hl
  rw [tails_b64] at hb
  unfold Mag64
  exact hb
theorem Ra.mag {i : Int} {D n : Nat} {x : UInt64} (h : Ra i D x) (hD : 0 < D) (hi : i.natAbs ≤ 2 ^ n * D) : Mag64 (n + 1024) x := by
  refine mag_of h.1 (Nat.le_of_mul_le_mul_right (c := D) ?_ hD)
  have e := congrArg Int.natAbs h.2
  rw [Int.natAbs_mul, Int.natAbs_mul, Int.natAbs_natCast, Int.natAbs_natCast] at e
  rw [e]
  exact al_mag hi
theorem big_of {x : UInt64} (hx : DFin x) (h : one64 ≤ (zv x).natAbs) : Jvm.RoadKit.Big64 1023 x := by
  have z := zmag_bits hx.ne_nan
  rw [zv_abs, z] at h
  have hs : unitsOf b64 (1023 * b64.tails) = b64.tails * 2 ^ (1023 - 1) := unitsOf_start (by decide)
  have ho : b64.tails * 2 ^ (1023 - 1) = one64 := by rw [tails_b64, ← pow_qmin64, ← Nat.pow_add, qmin_b64]; rfl
  have hl : unitsOf b64 (1023 * b64.tails) ≤ unitsOf b64 (x.toNat % 2 ^ 63) := by rw [hs, ho]; exact h
  have hb := unitsOf_le_iff.mp hl
  rw [tails_b64] at hb
  have hf := (fin_bits x).mp hx
  exact ⟨hb, by omega⟩
theorem Ra.big {i : Int} {x : UInt64} (h : Ra i 1 x) (hi : i ≠ 0) : Jvm.RoadKit.Big64 1023 x := by
  refine big_of h.1 ?_
  have e := congrArg Int.natAbs h.2
  rw [Int.natAbs_mul, Int.natAbs_mul, Int.natAbs_natCast, Int.natAbs_natCast, Nat.mul_one] at e
  rw [e]
  exact Nat.le_mul_of_pos_left _ (Int.natAbs_pos.mpr hi)
theorem ra_zero : Ra 0 1 (0 : UInt64) := ⟨⟨_, _, _, val64_zero⟩, by rw [show zv 0 = 0 from zval64_zero, Int.zero_mul, Int.zero_mul]⟩
theorem ra_one : Ra 1 1 (4607182418800017408 : UInt64) := Ra.lit (s := false) (c := 4503599627370496) (q := -52) (k := 0) (n := 52) (by decide +kernel) rfl (by decide) (by decide) (by decide)
theorem ra_two : Ra 2 1 (4611686018427387904 : UInt64) := Ra.lit (s := false) (c := 4503599627370496) (q := -51) (k := 0) (n := 51) (by decide +kernel) rfl (by decide) (by decide) (by decide)
end Jvm.OwnFP
namespace Jvm.OwnFP
open Jvm.FP Jvm.FP.Core Jvm.Free.Fl Jvm.RoadKit Jvm.LawKit
/-- the fields of a finite double -/
theorem fields {x : UInt64} {E T : Nat} (hE : E = x.toNat / 4503599627370496 % 2048) (hT : T = x.toNat % 4503599627370496) (hf : DFin x) :
    E ≤ 2046 ∧ sgn (val64 x) = decide (9223372036854775808 ≤ x.toNat) ∧ zmag b64 (val64 x) = if E = 0 then T else (4503599627370496 + T) * 2 ^ (E - 1) := by
  have hn : x.toNat < 18446744073709551616 := x.toNat_lt
  have e1 : fieldE b64 x.toNat = E := by rw [hE]; rfl
  have e2 : fieldT b64 x.toNat = T := by rw [hT]; rfl
  have e3 : fieldS b64 x.toNat = decide (9223372036854775808 ≤ x.toNat) := by
    show (x.toNat / 4503599627370496 / 2048 % 2 == 1) = _
    rw [Bool.eq_iff_iff, beq_iff_eq, decide_eq_true_iff]; omega
  obtain ⟨s, c, q, h⟩ := hf
  have h' : decode b64 x.toNat = .fin s c q := h
  have hv : val64 x = decode b64 x.toNat := rfl
  rw [hv]
  have h2 := h'
  unfold decode at h2 ⊢
  rw [e1, e2, e3] at h2 ⊢
  have ex : b64.exps - 1 = 2047 := by decide
  rw [ex] at h2 ⊢
  by_cases a : E = 2047
  · rw [if_pos a] at h2; split at h2 <;> cases h2
  rw [if_neg a]
  have hE2 : E ≤ 2046 := by omega
  refine ⟨hE2, ?_⟩
  by_cases z : E = 0
  · rw [if_pos z, if_pos z]
    refine ⟨rfl, ?_⟩
    show T * 2 ^ (b64.qmin - b64.qmin).toNat = T
    rw [Int.sub_self]; exact Nat.mul_one T
  · rw [if_neg z, if_neg z]
    refine ⟨rfl, ?_⟩
    show (b64.tails + T) * 2 ^ (b64.qmin + ((E : Int) - 1) - b64.qmin).toNat = _
    rw [show (b64.qmin + ((E : Int) - 1) - b64.qmin).toNat = E - 1 by omega]
    rfl
theorem shr_and (n a b k : Nat) (h : a >>> k = 2 ^ b - 1) : (n &&& a) / 2 ^ k = n / 2 ^ k % 2 ^ b := by
  rw [← Nat.shiftRight_eq_div_pow, Nat.shiftRight_and_distrib, h, Nat.and_two_pow_sub_one_eq_mod, Nat.shiftRight_eq_div_pow]
theorem toInt_of (x : Int64) : x.toInt = if x.toBitVec.toNat < 9223372036854775808 then (x.toBitVec.toNat : Int) else (x.toBitVec.toNat : Int) - 18446744073709551616 := by
  show x.toBitVec.toInt = _
  rw [BitVec.toInt_eq_toNat_cond]
  by_cases h : x.toBitVec.toNat < 9223372036854775808
  · rw [if_pos (by omega), if_pos h]
  · rw [if_neg (by omega), if_neg h]; rfl
theorem toInt32_of (x : Int32) : x.toInt = if x.toBitVec.toNat < 2147483648 then (x.toBitVec.toNat : Int) else (x.toBitVec.toNat : Int) - 4294967296 := by
  show x.toBitVec.toInt = _
  rw [BitVec.toInt_eq_toNat_cond]
  by_cases h : x.toBitVec.toNat < 2147483648
  · rw [if_pos (by omega), if_pos h]
  · rw [if_neg (by omega), if_neg h]; rfl
theorem bits_toInt (x : UInt64) : x.toInt64.toInt = if x.toNat < 9223372036854775808 then (x.toNat : Int) else (x.toNat : Int) - 18446744073709551616 := toInt_of x.toInt64
theorem exp_of (x : UInt64) : ((x.toInt64 &&& (9218868437227405312 : Int64)) >>> ((52 : Int32) &&& 0x3f).toInt64).toInt = ((x.toNat / 4503599627370496 % 2048 : Nat) : Int) := by
  rw [c_lshr _ (52 : Int32) 52 (by decide), toInt_of]
  have e : (x.toInt64 &&& (9218868437227405312 : Int64)).toBitVec.toNat = x.toNat &&& 9218868437227405312 := by
    rw [Int64.toBitVec_and, BitVec.toNat_and]; rfl
  have l : x.toNat &&& 9218868437227405312 ≤ 9218868437227405312 := Nat.and_le_right
  rw [e, if_pos (by omega)]
  have s := shr_and x.toNat 9218868437227405312 11 52 (by decide)
  rw [← Int.natCast_ediv, s]
theorem and64m (n : Nat) : (n &&& 18446744073709551552) % 64 = 0 := by
  have h : (n &&& 18446744073709551552) % 2 ^ 6 = 0 := by
    rw [← Nat.and_two_pow_sub_one_eq_mod, Nat.and_assoc, show 18446744073709551552 &&& (2 ^ 6 - 1) = 0 by decide, Nat.and_zero]
  exact h
theorem al_sg (s : Bool) (c P : Nat) : 2 * signed s (c * P) = signed s c * ((2 * P : Nat) : Int) := by
  have h : (2 : Int) * ((c : Int) * (P : Int)) = (c : Int) * (2 * (P : Int)) := by grind
  cases s
  · show 2 * ((c * P : Nat) : Int) = (c : Int) * ((2 * P : Nat) : Int)
    rw [Int.natCast_mul, Int.natCast_mul]; exact h
  · show 2 * -((c * P : Nat) : Int) = -(c : Int) * ((2 * P : Nat) : Int)
    rw [Int.natCast_mul, Int.natCast_mul, Int.neg_mul, Int.mul_neg]; exact congrArg (fun z => -z) h
theorem and64 (x : Int64) : (x &&& (-64 : Int64)) = 0 ↔ 0 ≤ x.toInt ∧ x.toInt < 64 := by
  have hx := x.toBitVec.isLt
  have e : (x &&& (-64 : Int64)).toBitVec.toNat = x.toBitVec.toNat &&& 18446744073709551552 := by
    rw [Int64.toBitVec_and, BitVec.toNat_and]; rfl
  have s := shr_and x.toBitVec.toNat 18446744073709551552 58 6 (by decide)
  have m := and64m x.toBitVec.toNat
  have t : (x &&& (-64 : Int64)) = 0 ↔ (x &&& (-64 : Int64)).toBitVec.toNat = 0 := by
    rw [← Int64.toBitVec_inj, ← BitVec.toNat_inj]; exact Iff.rfl
  rw [t, e, toInt_of]
  generalize x.toBitVec.toNat &&& 18446744073709551552 = w at *
  generalize x.toBitVec.toNat = n at *
  by_cases h : n < 9223372036854775808
  · rw [if_pos h]; omega
  · rw [if_neg h]; omega
/-- the half-up rounding of S / 2^(k+1) against m -/
theorem half_lt (S m : Int) (k : Nat) : (S / ((2 ^ k : Nat) : Int) + 1) / 2 < m ↔ S < (2 * m - 1) * ((2 ^ k : Nat) : Int) := by
  have hk : (0 : Int) < ((2 ^ k : Nat) : Int) := Int.natCast_pos.mpr (Nat.two_pow_pos k)
  have a := Int.ediv_lt_iff_lt_mul (a := S) (b := 2 * m - 1) hk
  rw [← a]
  generalize S / ((2 ^ k : Nat) : Int) = q
  omega
theorem al_pow {S z w P Q o : Int} (hQ : 0 < Q) (hz : 2 * z = S * Q) (ho : o = P * Q) : S < w * P ↔ 2 * z < w * o := by
  rw [hz, ho, ← Int.mul_assoc]
  exact ⟨fun h => Int.mul_lt_mul_of_pos_right h hQ, fun h => Int.lt_of_mul_lt_mul_right h (Int.le_of_lt hQ)⟩
/-- the first road of Math.round: the shift is in range -/
theorem round_shift {y : UInt64} {sg r m : Int64} (hf : DFin y)
    (hc : lcmpW ((((1074 : Int64) - ((y.toInt64 &&& (9218868437227405312 : Int64)) >>> ((52 : Int32) &&& 0x3f).toInt64)) &&& (-64 : Int64))) (0 : Int64) = (0 : Int32))
    (hs : (if lcmpW y.toInt64 (0 : Int64) < (0 : Int32) then (-((y.toInt64 &&& (4503599627370495 : Int64)) ||| (4503599627370496 : Int64))) else ((y.toInt64 &&& (4503599627370495 : Int64)) ||| (4503599627370496 : Int64))) = sg)
    (hr : (((sg >>> ((((1074 : Int64) - ((y.toInt64 &&& (9218868437227405312 : Int64)) >>> ((52 : Int32) &&& 0x3f).toInt64)).toInt32) &&& 0x3f).toInt64) + (1 : Int64)) >>> ((1 : Int32) &&& 0x3f).toInt64) = r) :
    (r.toInt < m.toInt ↔ 2 * zv y < (2 * m.toInt - 1) * (one64 : Int)) := by
  obtain ⟨E, hE⟩ : ∃ E, E = y.toNat / 4503599627370496 % 2048 := ⟨_, rfl⟩
  obtain ⟨T, hT⟩ : ∃ T, T = y.toNat % 4503599627370496 := ⟨_, rfl⟩
  obtain ⟨hE2, hsg, hz⟩ := fields hE hT hf
  have he := exp_of y
  rw [← hE] at he
  generalize ((y.toInt64 &&& (9218868437227405312 : Int64)) >>> ((52 : Int32) &&& 0x3f).toInt64) = e at *
  have h0 : (((1074 : Int64) - e) &&& (-64 : Int64)) = 0 := (lw_eq _ _).mp hc
  have h1 := (and64 _).mp h0
  have h2 := c_lsub (1074 : Int64) e
  rw [he, show (1074 : Int64).toInt = 1074 by decide +kernel] at h2
  generalize (1074 : Int64) - e = sh at *
  have k0 : E ≤ 1074 ∧ 1011 ≤ E ∧ sh.toInt = 1074 - (E : Int) := by omega
  obtain ⟨k, hk⟩ : ∃ k : Nat, k = 1074 - E := ⟨_, rfl⟩
  have h3 := c_l2i sh
  have h4 := rng32 sh.toInt32
  have h5 := toInt32_of sh.toInt32
  have h6 := sh.toInt32.toBitVec.isLt
  have hk2 : sh.toInt32.toBitVec.toNat % 64 = k := by
    by_cases h : sh.toInt32.toBitVec.toNat < 2147483648
    · rw [if_pos h] at h5; omega
    · rw [if_neg h] at h5; omega
  have bt := bits_toInt y
  have mT := c_maskL y.toInt64 (4503599627370495 : Int64) 52 (by decide) (by decide)
  have hT2 : (y.toInt64 &&& (4503599627370495 : Int64)).toInt = (T : Int) := by
    rw [mT, bt, hT]
    by_cases h : y.toNat < 9223372036854775808
    · rw [if_pos h]; omega
    · rw [if_neg h]; omega
  have hTb : T < 4503599627370496 := by omega
  have oT := c_orL' (y.toInt64 &&& (4503599627370495 : Int64)) (4503599627370496 : Int64) 52 (by decide) 4503599627370496 (by decide)
  rw [hT2, show (4503599627370496 : Int64).toInt = 4503599627370496 by decide +kernel] at oT
  have oT := oT (by decide) (by omega) (by omega)
  have rS := rng64 ((y.toInt64 &&& (4503599627370495 : Int64)) ||| (4503599627370496 : Int64))
  have hsig : ((y.toInt64 &&& (4503599627370495 : Int64)) ||| (4503599627370496 : Int64)).toInt = 4503599627370496 + (T : Int) := by omega
  generalize ((y.toInt64 &&& (4503599627370495 : Int64)) ||| (4503599627370496 : Int64)) = sig at *
  have hneg : (-sig).toInt = -(4503599627370496 + (T : Int)) := lneg_of hsig (by omega)
  have hlt : lcmpW y.toInt64 (0 : Int64) < (0 : Int32) ↔ 9223372036854775808 ≤ y.toNat := by
    rw [lw_lt, Int64.lt_iff_toInt_lt, bt, show (0 : Int64).toInt = 0 by decide +kernel]
    have := y.toNat_lt
    by_cases h : y.toNat < 9223372036854775808
    · rw [if_pos h]; omega
    · rw [if_neg h]; omega
  have hsgv : sg.toInt = signed (sgn (val64 y)) (4503599627370496 + T) := by
    rw [← hs, hsg]
    by_cases h : 9223372036854775808 ≤ y.toNat
    · rw [if_pos (hlt.mpr h), hneg, decide_eq_true h]; unfold signed; simp
    · rw [if_neg (fun q => h (hlt.mp q)), hsig, decide_eq_false h]; unfold signed; simp
  obtain ⟨S, hS⟩ : ∃ S, S = sg.toInt := ⟨_, rfl⟩
  have hSb : -9007199254740992 ≤ S ∧ S < 9007199254740992 := by
    rw [hS, hsgv]; unfold signed; split <;> omega
  have q1 := c_lshr sg sh.toInt32 k hk2
  have qb : -9007199254740992 ≤ sg.toInt / ((2 ^ k : Nat) : Int) ∧ sg.toInt / ((2 ^ k : Nat) : Int) < 9007199254740992 := by
    rw [← hS]
    have p1 : (1 : Int) ≤ ((2 ^ k : Nat) : Int) := Int.ofNat_le.mpr (Nat.one_le_two_pow)
    have p0 : (0 : Int) < ((2 ^ k : Nat) : Int) := Int.lt_of_lt_of_le (by decide) p1
    refine ⟨(Int.le_ediv_iff_mul_le p0).mpr (Int.le_trans ?_ hSb.1), (Int.ediv_lt_iff_lt_mul p0).mpr (Int.lt_of_lt_of_le hSb.2 ?_)⟩
    · have := Int.mul_le_mul_of_nonneg_left p1 (show (0 : Int) ≤ 9007199254740992 by decide)
      rw [Int.neg_mul]; omega
    · have := Int.mul_le_mul_of_nonneg_left p1 (show (0 : Int) ≤ 9007199254740992 by decide)
      omega
  generalize sg >>> (sh.toInt32 &&& 0x3f).toInt64 = v at *
  have ad := c_ladd v (1 : Int64)
  rw [show (1 : Int64).toInt = 1 by decide +kernel, q1] at ad
  have ra := rng64 (v + 1)
  have hv1 : (v + 1).toInt = sg.toInt / ((2 ^ k : Nat) : Int) + 1 := by omega
  have hr1 : r.toInt = (S / ((2 ^ k : Nat) : Int) + 1) / 2 := by
    rw [← hr, c_lshr _ (1 : Int32) 1 (by decide), hv1, hS]; rfl
  rw [hr1, half_lt]
  refine al_pow (Q := ((2 ^ E : Nat) : Int)) (Int.natCast_pos.mpr (Nat.two_pow_pos E)) ?_ ?_
  · have hzz : zv y = signed (sgn (val64 y)) (zmag b64 (val64 y)) := rfl
    rw [if_neg (by omega)] at hz
    have h2p : 2 * 2 ^ (E - 1) = 2 ^ E := by
      rw [Nat.mul_comm, ← Nat.pow_succ]; congr 1; omega
    rw [hzz, hz, hS, hsgv, ← h2p]
    exact al_sg _ _ _
  · rw [← Int.natCast_mul, ← Nat.pow_add]
    show ((2 ^ 1074 : Nat) : Int) = _
    rw [show k + E = 1074 by omega]
/-- the second road: a cast -/
theorem round_cast {y : UInt64} {m : Int64} (hf : DFin y)
    (hc : ¬ lcmpW ((((1074 : Int64) - ((y.toInt64 &&& (9218868437227405312 : Int64)) >>> ((52 : Int32) &&& 0x3f).toInt64)) &&& (-64 : Int64))) (0 : Int64) = (0 : Int32))
    (m0 : -2251799813685300 ≤ m.toInt) (m1 : m.toInt ≤ 2251799813685300) :
    ((FP.d2l y).toInt < m.toInt ↔ 2 * zv y < (2 * m.toInt - 1) * (one64 : Int)) := by
  obtain ⟨E, hE⟩ : ∃ E, E = y.toNat / 4503599627370496 % 2048 := ⟨_, rfl⟩
  obtain ⟨T, hT⟩ : ∃ T, T = y.toNat % 4503599627370496 := ⟨_, rfl⟩
  obtain ⟨hE2, hsg, hz⟩ := fields hE hT hf
  have he := exp_of y
  rw [← hE] at he
  generalize ((y.toInt64 &&& (9218868437227405312 : Int64)) >>> ((52 : Int32) &&& 0x3f).toInt64) = e at *
  have h0 : ¬ (((1074 : Int64) - e) &&& (-64 : Int64)) = 0 := fun q => hc ((lw_eq _ _).mpr q)
  rw [and64] at h0
  have h2 := c_lsub (1074 : Int64) e
  rw [he, show (1074 : Int64).toInt = 1074 by decide +kernel] at h2
  have h3 := rng64 ((1074 : Int64) - e)
  have k0 : E < 1011 ∨ 1075 ≤ E := by omega
  have hd := d2l_val hf.ne_nan
  have hzz : zv y = signed (sgn (val64 y)) (zmag b64 (val64 y)) := rfl
  have hTb : T < 4503599627370496 := by omega
  rw [show FP.d2l y = Core.d2l y from rfl, hd, hzz]
  have ho : 2 * 2 ^ 1073 = one64 := by show 2 * 2 ^ 1073 = 2 ^ 1074; rw [Nat.mul_comm, ← Nat.pow_succ]
  rcases k0 with k0 | k0
  · have hsm : 2 * zmag b64 (val64 y) < one64 := by
      rw [hz]
      by_cases h : E = 0
      · rw [if_pos h]
        refine Nat.lt_of_lt_of_le (m := 2 ^ 53) (by omega) ?_
        show 2 ^ 53 ≤ 2 ^ 1074
        exact Nat.pow_le_pow_right (by decide) (by decide)
      · rw [if_neg h]
        refine Nat.lt_of_lt_of_le (m := 2 * (2 ^ 53 * 2 ^ (E - 1))) ?_ ?_
        · exact Nat.mul_lt_mul_of_pos_left (Nat.mul_lt_mul_of_pos_right (by omega) (Nat.two_pow_pos _)) (by decide)
        · rw [← ho]
          refine Nat.mul_le_mul_left 2 ?_
          rw [← Nat.pow_add]
          exact Nat.pow_le_pow_right (by decide) (by omega)
    generalize zmag b64 (val64 y) = z at *
    have hq : z / one64 = 0 := Nat.div_eq_of_lt (by omega)
    rw [hq]
    have hsz : signed (sgn (val64 y)) 0 = 0 := by unfold signed; split <;> rfl
    rw [hsz]
    have op := oz
    have hb : -(one64 : Int) < 2 * signed (sgn (val64 y)) z ∧ 2 * signed (sgn (val64 y)) z < (one64 : Int) := by
      unfold signed; split <;> omega
    generalize signed (sgn (val64 y)) z = w at *
    generalize (one64 : Int) = o at *
    rw [show max (-2 ^ 63) (min (2 ^ 63 - 1) (0 : Int)) = 0 by decide]
    generalize m.toInt = M at *
    constructor
    · intro hm
      exact Int.lt_of_lt_of_le hb.2 (by have := Int.mul_le_mul_of_nonneg_right (show (1 : Int) ≤ 2 * M - 1 by omega) (Int.le_of_lt op); omega)
    · intro hm
      apply Int.lt_of_not_ge
      intro hge
      have := Int.mul_le_mul_of_nonneg_right (show 2 * M - 1 ≤ (-1 : Int) by omega) (Int.le_of_lt op)
      omega
  · have hbg : 4503599627370496 * one64 ≤ zmag b64 (val64 y) := by
      rw [hz, if_neg (by omega)]
      refine Nat.mul_le_mul (by omega) ?_
      show 2 ^ 1074 ≤ _
      exact Nat.pow_le_pow_right (by decide) (by omega)
    generalize zmag b64 (val64 y) = z at *
    have hq : 4503599627370496 ≤ z / one64 := (Nat.le_div_iff_mul_le one64_pos).mpr hbg
    have hbI : (4503599627370496 : Int) * (one64 : Int) ≤ (z : Int) := by
      have := Int.ofNat_le.mpr hbg
      rw [Int.natCast_mul] at this; exact this
    have op := oz
    generalize z / one64 = v at *
    generalize (one64 : Int) = o at *
    generalize m.toInt = M at *
    have b1 := Int.mul_le_mul_of_nonneg_right (show 2 * M - 1 ≤ (9007199254740990 : Int) by omega) (Int.le_of_lt op)
    have b2 := Int.mul_le_mul_of_nonneg_right (show (-9007199254740990 : Int) ≤ 2 * M - 1 by omega) (Int.le_of_lt op)
    cases hs2 : sgn (val64 y)
    · show max (-2 ^ 63) (min (2 ^ 63 - 1) (v : Int)) < M ↔ 2 * (z : Int) < _
      constructor
      · intro q; omega
      · intro q; omega
    · show max (-2 ^ 63) (min (2 ^ 63 - 1) (-(v : Int))) < M ↔ 2 * (-(z : Int)) < _
      constructor
      · intro q; omega
      · intro q; omega
end Jvm.OwnFP
namespace Jvm.Pilot.@@N@@
open Jvm Jvm.ClassFile Sem Op Lib Jvm.Free Jvm.Stand Jvm.LawKit Jvm.RoadKit Bundle Jvm.Pilot.@@N@@.Jvm.D
theorem d2_0 : decode jdk_29_method_22_code 0 = .ok (.dload_n 0, 1) := by decide +kernel
theorem d2_1 : decode jdk_29_method_22_code 1 = .ok (.invokestatic 79, 3) := by decide +kernel
theorem d2_4 : decode jdk_29_method_22_code 4 = .ok (.lstore_n 2, 1) := by decide +kernel
theorem d2_5 : decode jdk_29_method_22_code 5 = .ok (.lload_n 2, 1) := by decide +kernel
theorem d2_6 : decode jdk_29_method_22_code 6 = .ok (.ldc2_w 87, 3) := by decide +kernel
theorem d2_9 : decode jdk_29_method_22_code 9 = .ok (.land, 1) := by decide +kernel
theorem d2_10 : decode jdk_29_method_22_code 10 = .ok (.bipush 52, 2) := by decide +kernel
theorem d2_12 : decode jdk_29_method_22_code 12 = .ok (.lshr, 1) := by decide +kernel
theorem d2_13 : decode jdk_29_method_22_code 13 = .ok (.lstore 4, 2) := by decide +kernel
theorem d2_15 : decode jdk_29_method_22_code 15 = .ok (.ldc2_w 89, 3) := by decide +kernel
theorem d2_18 : decode jdk_29_method_22_code 18 = .ok (.lload 4, 2) := by decide +kernel
theorem d2_20 : decode jdk_29_method_22_code 20 = .ok (.lsub, 1) := by decide +kernel
theorem d2_21 : decode jdk_29_method_22_code 21 = .ok (.lstore 6, 2) := by decide +kernel
theorem d2_23 : decode jdk_29_method_22_code 23 = .ok (.lload 6, 2) := by decide +kernel
theorem d2_25 : decode jdk_29_method_22_code 25 = .ok (.ldc2_w 91, 3) := by decide +kernel
theorem d2_28 : decode jdk_29_method_22_code 28 = .ok (.land, 1) := by decide +kernel
theorem d2_29 : decode jdk_29_method_22_code 29 = .ok (.lconst 0, 1) := by decide +kernel
theorem d2_30 : decode jdk_29_method_22_code 30 = .ok (.lcmp, 1) := by decide +kernel
theorem d2_31 : decode jdk_29_method_22_code 31 = .ok (.ifCond .ne 36, 3) := by decide +kernel
theorem d2_34 : decode jdk_29_method_22_code 34 = .ok (.lload_n 2, 1) := by decide +kernel
theorem d2_35 : decode jdk_29_method_22_code 35 = .ok (.ldc2_w 93, 3) := by decide +kernel
theorem d2_38 : decode jdk_29_method_22_code 38 = .ok (.land, 1) := by decide +kernel
theorem d2_39 : decode jdk_29_method_22_code 39 = .ok (.ldc2_w 95, 3) := by decide +kernel
theorem d2_42 : decode jdk_29_method_22_code 42 = .ok (.lor, 1) := by decide +kernel
theorem d2_43 : decode jdk_29_method_22_code 43 = .ok (.lstore 8, 2) := by decide +kernel
theorem d2_45 : decode jdk_29_method_22_code 45 = .ok (.lload_n 2, 1) := by decide +kernel
theorem d2_46 : decode jdk_29_method_22_code 46 = .ok (.lconst 0, 1) := by decide +kernel
theorem d2_47 : decode jdk_29_method_22_code 47 = .ok (.lcmp, 1) := by decide +kernel
theorem d2_48 : decode jdk_29_method_22_code 48 = .ok (.ifCond .ge 8, 3) := by decide +kernel
theorem d2_51 : decode jdk_29_method_22_code 51 = .ok (.lload 8, 2) := by decide +kernel
theorem d2_53 : decode jdk_29_method_22_code 53 = .ok (.lneg, 1) := by decide +kernel
theorem d2_54 : decode jdk_29_method_22_code 54 = .ok (.lstore 8, 2) := by decide +kernel
theorem d2_56 : decode jdk_29_method_22_code 56 = .ok (.lload 8, 2) := by decide +kernel
theorem d2_58 : decode jdk_29_method_22_code 58 = .ok (.lload 6, 2) := by decide +kernel
theorem d2_60 : decode jdk_29_method_22_code 60 = .ok (.l2i, 1) := by decide +kernel
theorem d2_61 : decode jdk_29_method_22_code 61 = .ok (.lshr, 1) := by decide +kernel
theorem d2_62 : decode jdk_29_method_22_code 62 = .ok (.lconst 1, 1) := by decide +kernel
theorem d2_63 : decode jdk_29_method_22_code 63 = .ok (.ladd, 1) := by decide +kernel
theorem d2_64 : decode jdk_29_method_22_code 64 = .ok (.iconst 1, 1) := by decide +kernel
theorem d2_65 : decode jdk_29_method_22_code 65 = .ok (.lshr, 1) := by decide +kernel
theorem d2_66 : decode jdk_29_method_22_code 66 = .ok (.lreturn, 1) := by decide +kernel
theorem ef_2_D (m : MethodId) (x0 : UInt64) : entryFrame m #[(.double x0)] 10 = mkF m 0 #[.val (.double x0), .second, .unset, .unset, .unset, .unset, .unset, .unset, .unset, .unset] [] := by first | (simp [entryFrame, mkF, argsToLocals, Value.category]; done) | rfl
def Q_rdA (Z : State) (d0 : UInt64) (sg : Int64) (h0 : Heap) (n0 : Nat) (v : Option Value) (h : Heap) (L : List Loc) : Prop := v = some (.long (((sg >>> ((((1074 : Int64) - (((d0.toInt64) &&& (9218868437227405312 : Int64)) >>> ((52 : Int32) &&& 0x3f).toInt64)).toInt32) &&& 0x3f).toInt64) + (1 : Int64)) >>> ((1 : Int32) &&& 0x3f).toInt64)) ∧ Fr n0 L ∧ h = h0
set_option maxRecDepth 65536 in
set_option maxHeartbeats 40000000 in
theorem rdA (l : Launch) (Z : State) (a0 : Array Value) (hw : ∀ d ∈ tables_1, d.before a0 Z = true) (ws : List Jvm.Cond) (d0 : UInt64) (sg : Int64) (h0 : Heap) (n0 : Nat) (Z0 : n0 ≤ h0.size) (hc31 : (lcmpW (((1074 : Int64) - (((d0.toInt64) &&& (9218868437227405312 : Int64)) >>> ((52 : Int32) &&& 0x3f).toInt64)) &&& (-64 : Int64)) (0 : Int64)) = (0 : Int32)) (hj_sg : (if (lcmpW (d0.toInt64) (0 : Int64)) < (0 : Int32) then (-(((d0.toInt64) &&& (4503599627370495 : Int64)) ||| (4503599627370496 : Int64))) else (((d0.toInt64) &&& (4503599627370495 : Int64)) ||| (4503599627370496 : Int64))) = sg) :
    MetFree l (⟨"java/lang/Math", "round", "(D)J"⟩ : MethodName) (head1 (Jvm.Cond.code (⟨"java/lang/Math", "round", "(D)J"⟩ : MethodName) jdk_29_method_22_code 10 (some .long) :: ws) ({ frames := 1, cells := 0, slots := 0, locals := 15 } : Room)) (fun a U => a = #[(.double d0)] ∧ Z.Warmed39 U.vm ∧ U.heap = h0) (fun _ _ _ _ _ => True) (fun _ U o U' => ∃ v L, o = .returned v ∧ Q_rdA Z d0 sg h0 n0 v U'.heap L ∧ FrameEnd U o U' L ({ frames := 1, cells := 0, slots := 0, locals := 15 } : Room).cells ({ frames := 1, cells := 0, slots := 0, locals := 15 } : Room).slots) := by
  refine MetFree.of_bodySF (Jvm.Free.JP.mathPlain rfl (by decide +kernel)) hisR ?_
  intro p e s m args below meth c s₁ Bd hml0 hP hK
  obtain ⟨rfl, hZ, hh⟩ := hP
  have hx := Bd.exec
  have hby := Bd.bytes
  have hml : c.maxLocals = 10 := hml0
  have hown : s.vm.findClass "java/lang/Math" = some m.cls := findClass_of_methodNamed Bd.named
  have hnm := (name_of_methodNamed Bd.named Bd.method).1
  have X0 : Stand p l e ({ frames := 1, cells := 0, slots := 0, locals := 15 } : Room) s m #[(.double d0)] below meth c s₁ [] 0 0 := Stand.of_body Bd
  have e0 : s₁.heap = h0 := by rw [← hh, Bd.state]; rfl
  have N0 := Fr.nil n0
  have pre0 : ∀ t, Steps p.tables e below (s₁.setTop (mkF m 0 #[.val (.double d0), .second, .unset, .unset, .unset, .unset, .unset, .unset, .unset, .unset] [])) t → Steps p.tables e below (s₁.setTop (entryFrame m #[(.double d0)] 10)) t := fun t k => castTop (ef_2_D m d0) k
  obtain ⟨T1, X1, e1, st1⟩ := own_bits X0 hx hZ hown (hw _ (List.mem_of_getElem? (i := 10) rfl)) (hw _ (List.mem_of_getElem? (i := 11) rfl)) (hw _ (List.mem_of_getElem? (i := 12) rfl)) (hw _ (List.mem_of_getElem? (i := 13) rfl)) e0 (W := 0) (g := (mkF m 1 #[.val (.double d0), .second, .unset, .unset, .unset, .unset, .unset, .unset, .unset, .unset] [(.double d0)])) rfl (by rw [hml]; rfl) rfl (by show 2 * 0 + _ ≤ _; exact Nat.le_of_eq rfl) (hb hby d2_1) (by decide) (by decide)
  have jn2 : ∀ target, Steps p.tables e below (T1.setTop (mkF m 56 #[.val (.double d0), .second, .val (.long (d0.toInt64)), .second, .val (.long (((d0.toInt64) &&& (9218868437227405312 : Int64)) >>> ((52 : Int32) &&& 0x3f).toInt64)), .second, .val (.long ((1074 : Int64) - (((d0.toInt64) &&& (9218868437227405312 : Int64)) >>> ((52 : Int32) &&& 0x3f).toInt64))), .second, .val (.long sg), .second] [])) target → Steps p.tables e below (T1.setTop (mkF m 48 #[.val (.double d0), .second, .val (.long (d0.toInt64)), .second, .val (.long (((d0.toInt64) &&& (9218868437227405312 : Int64)) >>> ((52 : Int32) &&& 0x3f).toInt64)), .second, .val (.long ((1074 : Int64) - (((d0.toInt64) &&& (9218868437227405312 : Int64)) >>> ((52 : Int32) &&& 0x3f).toInt64))), .second, .val (.long (((d0.toInt64) &&& (4503599627370495 : Int64)) ||| (4503599627370496 : Int64))), .second] [(.int (lcmpW (d0.toInt64) (0 : Int64)))])) target := by
    intro target kt
    by_cases hq : (lcmpW (d0.toInt64) (0 : Int64)) < (0 : Int32)
    · rw [if_pos hq] at hj_sg; subst hj_sg
      show Steps p.tables e below (T1.setTop (mkF m 48 #[.val (.double d0), .second, .val (.long (d0.toInt64)), .second, .val (.long (((d0.toInt64) &&& (9218868437227405312 : Int64)) >>> ((52 : Int32) &&& 0x3f).toInt64)), .second, .val (.long ((1074 : Int64) - (((d0.toInt64) &&& (9218868437227405312 : Int64)) >>> ((52 : Int32) &&& 0x3f).toInt64))), .second, .val (.long (((d0.toInt64) &&& (4503599627370495 : Int64)) ||| (4503599627370496 : Int64))), .second] [(.int (lcmpW (d0.toInt64) (0 : Int64)))])) _
      refine XS.ifNo X1.here hx rfl (hb hby d2_48) rfl ((if0 _ _).trans (tlt hq).2.1) ?_
      show Steps p.tables e below (T1.setTop (mkF m 51 #[.val (.double d0), .second, .val (.long (d0.toInt64)), .second, .val (.long (((d0.toInt64) &&& (9218868437227405312 : Int64)) >>> ((52 : Int32) &&& 0x3f).toInt64)), .second, .val (.long ((1074 : Int64) - (((d0.toInt64) &&& (9218868437227405312 : Int64)) >>> ((52 : Int32) &&& 0x3f).toInt64))), .second, .val (.long (((d0.toInt64) &&& (4503599627370495 : Int64)) ||| (4503599627370496 : Int64))), .second] [])) _
      refine XS.lload X1.here hx rfl (hb hby d2_51) rfl ?_
      show Steps p.tables e below (T1.setTop (mkF m 53 #[.val (.double d0), .second, .val (.long (d0.toInt64)), .second, .val (.long (((d0.toInt64) &&& (9218868437227405312 : Int64)) >>> ((52 : Int32) &&& 0x3f).toInt64)), .second, .val (.long ((1074 : Int64) - (((d0.toInt64) &&& (9218868437227405312 : Int64)) >>> ((52 : Int32) &&& 0x3f).toInt64))), .second, .val (.long (((d0.toInt64) &&& (4503599627370495 : Int64)) ||| (4503599627370496 : Int64))), .second] [(.long (((d0.toInt64) &&& (4503599627370495 : Int64)) ||| (4503599627370496 : Int64)))])) _
      refine XS.lneg X1.here hx rfl (hb hby d2_53) rfl ?_
      show Steps p.tables e below (T1.setTop (mkF m 54 #[.val (.double d0), .second, .val (.long (d0.toInt64)), .second, .val (.long (((d0.toInt64) &&& (9218868437227405312 : Int64)) >>> ((52 : Int32) &&& 0x3f).toInt64)), .second, .val (.long ((1074 : Int64) - (((d0.toInt64) &&& (9218868437227405312 : Int64)) >>> ((52 : Int32) &&& 0x3f).toInt64))), .second, .val (.long (((d0.toInt64) &&& (4503599627370495 : Int64)) ||| (4503599627370496 : Int64))), .second] [(.long (-(((d0.toInt64) &&& (4503599627370495 : Int64)) ||| (4503599627370496 : Int64))))])) _
      refine XS.lstore X1.here hx rfl (hb hby d2_54) rfl (l' := #[.val (.double d0), .second, .val (.long (d0.toInt64)), .second, .val (.long (((d0.toInt64) &&& (9218868437227405312 : Int64)) >>> ((52 : Int32) &&& 0x3f).toInt64)), .second, .val (.long ((1074 : Int64) - (((d0.toInt64) &&& (9218868437227405312 : Int64)) >>> ((52 : Int32) &&& 0x3f).toInt64))), .second, .val (.long (-(((d0.toInt64) &&& (4503599627370495 : Int64)) ||| (4503599627370496 : Int64)))), .second]) rfl ?_
      show Steps p.tables e below (T1.setTop (mkF m 56 #[.val (.double d0), .second, .val (.long (d0.toInt64)), .second, .val (.long (((d0.toInt64) &&& (9218868437227405312 : Int64)) >>> ((52 : Int32) &&& 0x3f).toInt64)), .second, .val (.long ((1074 : Int64) - (((d0.toInt64) &&& (9218868437227405312 : Int64)) >>> ((52 : Int32) &&& 0x3f).toInt64))), .second, .val (.long (-(((d0.toInt64) &&& (4503599627370495 : Int64)) ||| (4503599627370496 : Int64)))), .second] [])) _
      exact kt
    · rw [if_neg hq] at hj_sg; subst hj_sg
      show Steps p.tables e below (T1.setTop (mkF m 48 #[.val (.double d0), .second, .val (.long (d0.toInt64)), .second, .val (.long (((d0.toInt64) &&& (9218868437227405312 : Int64)) >>> ((52 : Int32) &&& 0x3f).toInt64)), .second, .val (.long ((1074 : Int64) - (((d0.toInt64) &&& (9218868437227405312 : Int64)) >>> ((52 : Int32) &&& 0x3f).toInt64))), .second, .val (.long (((d0.toInt64) &&& (4503599627370495 : Int64)) ||| (4503599627370496 : Int64))), .second] [(.int (lcmpW (d0.toInt64) (0 : Int64)))])) _
      refine XS.ifYes X1.here hx rfl (pc0 := 48) (pc' := 56) rfl (hb hby d2_48) rfl ((if0 _ _).trans (flt hq).2.1) (by decide) (by decide) ?_
      show Steps p.tables e below (T1.setTop (mkF m 56 #[.val (.double d0), .second, .val (.long (d0.toInt64)), .second, .val (.long (((d0.toInt64) &&& (9218868437227405312 : Int64)) >>> ((52 : Int32) &&& 0x3f).toInt64)), .second, .val (.long ((1074 : Int64) - (((d0.toInt64) &&& (9218868437227405312 : Int64)) >>> ((52 : Int32) &&& 0x3f).toInt64))), .second, .val (.long (((d0.toInt64) &&& (4503599627370495 : Int64)) ||| (4503599627370496 : Int64))), .second] [])) _
      exact kt
  obtain ⟨fs, hr, hrun, hended, hW, hsame⟩ := X1.leave (v := some (.long (((sg >>> ((((1074 : Int64) - (((d0.toInt64) &&& (9218868437227405312 : Int64)) >>> ((52 : Int32) &&& 0x3f).toInt64)).toInt32) &&& 0x3f).toInt64) + (1 : Int64)) >>> ((1 : Int32) &&& 0x3f).toInt64))) (fun h => by rw [Bd.returns] at h; cases h)
  refine ⟨_, _, pre0 _ ?_, hrun, hended, _, _, rfl, ?_, ⟨_, rfl⟩, hW, hsame.mono (by decide) (by decide)⟩
  · show Steps p.tables e below (s₁.setTop (mkF m 0 #[.val (.double d0), .second, .unset, .unset, .unset, .unset, .unset, .unset, .unset, .unset] [])) _
    refine XS.dloadN X0.here hx rfl (hb hby d2_0) rfl ?_
    show Steps p.tables e below (s₁.setTop (mkF m 1 #[.val (.double d0), .second, .unset, .unset, .unset, .unset, .unset, .unset, .unset, .unset] [(.double d0)])) _
    refine st1 _ ?_
    show Steps p.tables e below (T1.setTop (mkF m 4 #[.val (.double d0), .second, .unset, .unset, .unset, .unset, .unset, .unset, .unset, .unset] [(.long (d0.toInt64))])) _
    refine XS.lstoreN X1.here hx rfl (hb hby d2_4) rfl (l' := #[.val (.double d0), .second, .val (.long (d0.toInt64)), .second, .unset, .unset, .unset, .unset, .unset, .unset]) rfl ?_
    show Steps p.tables e below (T1.setTop (mkF m 5 #[.val (.double d0), .second, .val (.long (d0.toInt64)), .second, .unset, .unset, .unset, .unset, .unset, .unset] [])) _
    refine XS.lloadN X1.here hx rfl (hb hby d2_5) rfl ?_
    show Steps p.tables e below (T1.setTop (mkF m 6 #[.val (.double d0), .second, .val (.long (d0.toInt64)), .second, .unset, .unset, .unset, .unset, .unset, .unset] [(.long (d0.toInt64))])) _
    refine X1.ldc2Long hx hown (mvT hZ (hw _ (List.mem_of_getElem? (i := 14) rfl))) (g := (mkF m 6 #[.val (.double d0), .second, .val (.long (d0.toInt64)), .second, .unset, .unset, .unset, .unset, .unset, .unset] [(.long (d0.toInt64))])) rfl (hb hby d2_6) _ ?_
    show Steps p.tables e below (T1.setTop (mkF m 9 #[.val (.double d0), .second, .val (.long (d0.toInt64)), .second, .unset, .unset, .unset, .unset, .unset, .unset] [(.long (9218868437227405312 : Int64)), (.long (d0.toInt64))])) _
    refine XS.land X1.here hx rfl (hb hby d2_9) rfl ?_
    show Steps p.tables e below (T1.setTop (mkF m 10 #[.val (.double d0), .second, .val (.long (d0.toInt64)), .second, .unset, .unset, .unset, .unset, .unset, .unset] [(.long ((d0.toInt64) &&& (9218868437227405312 : Int64)))])) _
    refine XS.bipush X1.here hx rfl (hb hby d2_10) ?_
    show Steps p.tables e below (T1.setTop (mkF m 12 #[.val (.double d0), .second, .val (.long (d0.toInt64)), .second, .unset, .unset, .unset, .unset, .unset, .unset] [(.int (52 : Int32)), (.long ((d0.toInt64) &&& (9218868437227405312 : Int64)))])) _
    refine XS.lshr X1.here hx rfl (hb hby d2_12) rfl ?_
    show Steps p.tables e below (T1.setTop (mkF m 13 #[.val (.double d0), .second, .val (.long (d0.toInt64)), .second, .unset, .unset, .unset, .unset, .unset, .unset] [(.long (((d0.toInt64) &&& (9218868437227405312 : Int64)) >>> ((52 : Int32) &&& 0x3f).toInt64))])) _
    refine XS.lstore X1.here hx rfl (hb hby d2_13) rfl (l' := #[.val (.double d0), .second, .val (.long (d0.toInt64)), .second, .val (.long (((d0.toInt64) &&& (9218868437227405312 : Int64)) >>> ((52 : Int32) &&& 0x3f).toInt64)), .second, .unset, .unset, .unset, .unset]) rfl ?_
    show Steps p.tables e below (T1.setTop (mkF m 15 #[.val (.double d0), .second, .val (.long (d0.toInt64)), .second, .val (.long (((d0.toInt64) &&& (9218868437227405312 : Int64)) >>> ((52 : Int32) &&& 0x3f).toInt64)), .second, .unset, .unset, .unset, .unset] [])) _
    refine X1.ldc2Long hx hown (mvT hZ (hw _ (List.mem_of_getElem? (i := 15) rfl))) (g := (mkF m 15 #[.val (.double d0), .second, .val (.long (d0.toInt64)), .second, .val (.long (((d0.toInt64) &&& (9218868437227405312 : Int64)) >>> ((52 : Int32) &&& 0x3f).toInt64)), .second, .unset, .unset, .unset, .unset] [])) rfl (hb hby d2_15) _ ?_
    show Steps p.tables e below (T1.setTop (mkF m 18 #[.val (.double d0), .second, .val (.long (d0.toInt64)), .second, .val (.long (((d0.toInt64) &&& (9218868437227405312 : Int64)) >>> ((52 : Int32) &&& 0x3f).toInt64)), .second, .unset, .unset, .unset, .unset] [(.long (1074 : Int64))])) _
    refine XS.lload X1.here hx rfl (hb hby d2_18) rfl ?_
    show Steps p.tables e below (T1.setTop (mkF m 20 #[.val (.double d0), .second, .val (.long (d0.toInt64)), .second, .val (.long (((d0.toInt64) &&& (9218868437227405312 : Int64)) >>> ((52 : Int32) &&& 0x3f).toInt64)), .second, .unset, .unset, .unset, .unset] [(.long (((d0.toInt64) &&& (9218868437227405312 : Int64)) >>> ((52 : Int32) &&& 0x3f).toInt64)), (.long (1074 : Int64))])) _
    refine XS.lsub X1.here hx rfl (hb hby d2_20) rfl ?_
    show Steps p.tables e below (T1.setTop (mkF m 21 #[.val (.double d0), .second, .val (.long (d0.toInt64)), .second, .val (.long (((d0.toInt64) &&& (9218868437227405312 : Int64)) >>> ((52 : Int32) &&& 0x3f).toInt64)), .second, .unset, .unset, .unset, .unset] [(.long ((1074 : Int64) - (((d0.toInt64) &&& (9218868437227405312 : Int64)) >>> ((52 : Int32) &&& 0x3f).toInt64)))])) _
    refine XS.lstore X1.here hx rfl (hb hby d2_21) rfl (l' := #[.val (.double d0), .second, .val (.long (d0.toInt64)), .second, .val (.long (((d0.toInt64) &&& (9218868437227405312 : Int64)) >>> ((52 : Int32) &&& 0x3f).toInt64)), .second, .val (.long ((1074 : Int64) - (((d0.toInt64) &&& (9218868437227405312 : Int64)) >>> ((52 : Int32) &&& 0x3f).toInt64))), .second, .unset, .unset]) rfl ?_
    show Steps p.tables e below (T1.setTop (mkF m 23 #[.val (.double d0), .second, .val (.long (d0.toInt64)), .second, .val (.long (((d0.toInt64) &&& (9218868437227405312 : Int64)) >>> ((52 : Int32) &&& 0x3f).toInt64)), .second, .val (.long ((1074 : Int64) - (((d0.toInt64) &&& (9218868437227405312 : Int64)) >>> ((52 : Int32) &&& 0x3f).toInt64))), .second, .unset, .unset] [])) _
    refine XS.lload X1.here hx rfl (hb hby d2_23) rfl ?_
    show Steps p.tables e below (T1.setTop (mkF m 25 #[.val (.double d0), .second, .val (.long (d0.toInt64)), .second, .val (.long (((d0.toInt64) &&& (9218868437227405312 : Int64)) >>> ((52 : Int32) &&& 0x3f).toInt64)), .second, .val (.long ((1074 : Int64) - (((d0.toInt64) &&& (9218868437227405312 : Int64)) >>> ((52 : Int32) &&& 0x3f).toInt64))), .second, .unset, .unset] [(.long ((1074 : Int64) - (((d0.toInt64) &&& (9218868437227405312 : Int64)) >>> ((52 : Int32) &&& 0x3f).toInt64)))])) _
    refine X1.ldc2Long hx hown (mvT hZ (hw _ (List.mem_of_getElem? (i := 16) rfl))) (g := (mkF m 25 #[.val (.double d0), .second, .val (.long (d0.toInt64)), .second, .val (.long (((d0.toInt64) &&& (9218868437227405312 : Int64)) >>> ((52 : Int32) &&& 0x3f).toInt64)), .second, .val (.long ((1074 : Int64) - (((d0.toInt64) &&& (9218868437227405312 : Int64)) >>> ((52 : Int32) &&& 0x3f).toInt64))), .second, .unset, .unset] [(.long ((1074 : Int64) - (((d0.toInt64) &&& (9218868437227405312 : Int64)) >>> ((52 : Int32) &&& 0x3f).toInt64)))])) rfl (hb hby d2_25) _ ?_
    show Steps p.tables e below (T1.setTop (mkF m 28 #[.val (.double d0), .second, .val (.long (d0.toInt64)), .second, .val (.long (((d0.toInt64) &&& (9218868437227405312 : Int64)) >>> ((52 : Int32) &&& 0x3f).toInt64)), .second, .val (.long ((1074 : Int64) - (((d0.toInt64) &&& (9218868437227405312 : Int64)) >>> ((52 : Int32) &&& 0x3f).toInt64))), .second, .unset, .unset] [(.long (-64 : Int64)), (.long ((1074 : Int64) - (((d0.toInt64) &&& (9218868437227405312 : Int64)) >>> ((52 : Int32) &&& 0x3f).toInt64)))])) _
    refine XS.land X1.here hx rfl (hb hby d2_28) rfl ?_
    show Steps p.tables e below (T1.setTop (mkF m 29 #[.val (.double d0), .second, .val (.long (d0.toInt64)), .second, .val (.long (((d0.toInt64) &&& (9218868437227405312 : Int64)) >>> ((52 : Int32) &&& 0x3f).toInt64)), .second, .val (.long ((1074 : Int64) - (((d0.toInt64) &&& (9218868437227405312 : Int64)) >>> ((52 : Int32) &&& 0x3f).toInt64))), .second, .unset, .unset] [(.long (((1074 : Int64) - (((d0.toInt64) &&& (9218868437227405312 : Int64)) >>> ((52 : Int32) &&& 0x3f).toInt64)) &&& (-64 : Int64)))])) _
    refine XS.lconst X1.here hx rfl (hb hby d2_29) ?_
    show Steps p.tables e below (T1.setTop (mkF m 30 #[.val (.double d0), .second, .val (.long (d0.toInt64)), .second, .val (.long (((d0.toInt64) &&& (9218868437227405312 : Int64)) >>> ((52 : Int32) &&& 0x3f).toInt64)), .second, .val (.long ((1074 : Int64) - (((d0.toInt64) &&& (9218868437227405312 : Int64)) >>> ((52 : Int32) &&& 0x3f).toInt64))), .second, .unset, .unset] [(.long (0 : Int64)), (.long (((1074 : Int64) - (((d0.toInt64) &&& (9218868437227405312 : Int64)) >>> ((52 : Int32) &&& 0x3f).toInt64)) &&& (-64 : Int64)))])) _
    refine XS.lcmp X1.here hx rfl (hb hby d2_30) rfl ?_
    show Steps p.tables e below (T1.setTop (mkF m 31 #[.val (.double d0), .second, .val (.long (d0.toInt64)), .second, .val (.long (((d0.toInt64) &&& (9218868437227405312 : Int64)) >>> ((52 : Int32) &&& 0x3f).toInt64)), .second, .val (.long ((1074 : Int64) - (((d0.toInt64) &&& (9218868437227405312 : Int64)) >>> ((52 : Int32) &&& 0x3f).toInt64))), .second, .unset, .unset] [(.int (lcmpW (((1074 : Int64) - (((d0.toInt64) &&& (9218868437227405312 : Int64)) >>> ((52 : Int32) &&& 0x3f).toInt64)) &&& (-64 : Int64)) (0 : Int64)))])) _
    refine XS.ifNo X1.here hx rfl (hb hby d2_31) rfl ((if0 _ _).trans (teq hc31).2) ?_
    show Steps p.tables e below (T1.setTop (mkF m 34 #[.val (.double d0), .second, .val (.long (d0.toInt64)), .second, .val (.long (((d0.toInt64) &&& (9218868437227405312 : Int64)) >>> ((52 : Int32) &&& 0x3f).toInt64)), .second, .val (.long ((1074 : Int64) - (((d0.toInt64) &&& (9218868437227405312 : Int64)) >>> ((52 : Int32) &&& 0x3f).toInt64))), .second, .unset, .unset] [])) _
    refine XS.lloadN X1.here hx rfl (hb hby d2_34) rfl ?_
    show Steps p.tables e below (T1.setTop (mkF m 35 #[.val (.double d0), .second, .val (.long (d0.toInt64)), .second, .val (.long (((d0.toInt64) &&& (9218868437227405312 : Int64)) >>> ((52 : Int32) &&& 0x3f).toInt64)), .second, .val (.long ((1074 : Int64) - (((d0.toInt64) &&& (9218868437227405312 : Int64)) >>> ((52 : Int32) &&& 0x3f).toInt64))), .second, .unset, .unset] [(.long (d0.toInt64))])) _
    refine X1.ldc2Long hx hown (mvT hZ (hw _ (List.mem_of_getElem? (i := 17) rfl))) (g := (mkF m 35 #[.val (.double d0), .second, .val (.long (d0.toInt64)), .second, .val (.long (((d0.toInt64) &&& (9218868437227405312 : Int64)) >>> ((52 : Int32) &&& 0x3f).toInt64)), .second, .val (.long ((1074 : Int64) - (((d0.toInt64) &&& (9218868437227405312 : Int64)) >>> ((52 : Int32) &&& 0x3f).toInt64))), .second, .unset, .unset] [(.long (d0.toInt64))])) rfl (hb hby d2_35) _ ?_
    show Steps p.tables e below (T1.setTop (mkF m 38 #[.val (.double d0), .second, .val (.long (d0.toInt64)), .second, .val (.long (((d0.toInt64) &&& (9218868437227405312 : Int64)) >>> ((52 : Int32) &&& 0x3f).toInt64)), .second, .val (.long ((1074 : Int64) - (((d0.toInt64) &&& (9218868437227405312 : Int64)) >>> ((52 : Int32) &&& 0x3f).toInt64))), .second, .unset, .unset] [(.long (4503599627370495 : Int64)), (.long (d0.toInt64))])) _
    refine XS.land X1.here hx rfl (hb hby d2_38) rfl ?_
    show Steps p.tables e below (T1.setTop (mkF m 39 #[.val (.double d0), .second, .val (.long (d0.toInt64)), .second, .val (.long (((d0.toInt64) &&& (9218868437227405312 : Int64)) >>> ((52 : Int32) &&& 0x3f).toInt64)), .second, .val (.long ((1074 : Int64) - (((d0.toInt64) &&& (9218868437227405312 : Int64)) >>> ((52 : Int32) &&& 0x3f).toInt64))), .second, .unset, .unset] [(.long ((d0.toInt64) &&& (4503599627370495 : Int64)))])) _
    refine X1.ldc2Long hx hown (mvT hZ (hw _ (List.mem_of_getElem? (i := 18) rfl))) (g := (mkF m 39 #[.val (.double d0), .second, .val (.long (d0.toInt64)), .second, .val (.long (((d0.toInt64) &&& (9218868437227405312 : Int64)) >>> ((52 : Int32) &&& 0x3f).toInt64)), .second, .val (.long ((1074 : Int64) - (((d0.toInt64) &&& (9218868437227405312 : Int64)) >>> ((52 : Int32) &&& 0x3f).toInt64))), .second, .unset, .unset] [(.long ((d0.toInt64) &&& (4503599627370495 : Int64)))])) rfl (hb hby d2_39) _ ?_
    show Steps p.tables e below (T1.setTop (mkF m 42 #[.val (.double d0), .second, .val (.long (d0.toInt64)), .second, .val (.long (((d0.toInt64) &&& (9218868437227405312 : Int64)) >>> ((52 : Int32) &&& 0x3f).toInt64)), .second, .val (.long ((1074 : Int64) - (((d0.toInt64) &&& (9218868437227405312 : Int64)) >>> ((52 : Int32) &&& 0x3f).toInt64))), .second, .unset, .unset] [(.long (4503599627370496 : Int64)), (.long ((d0.toInt64) &&& (4503599627370495 : Int64)))])) _
    refine XS.lor X1.here hx rfl (hb hby d2_42) rfl ?_
    show Steps p.tables e below (T1.setTop (mkF m 43 #[.val (.double d0), .second, .val (.long (d0.toInt64)), .second, .val (.long (((d0.toInt64) &&& (9218868437227405312 : Int64)) >>> ((52 : Int32) &&& 0x3f).toInt64)), .second, .val (.long ((1074 : Int64) - (((d0.toInt64) &&& (9218868437227405312 : Int64)) >>> ((52 : Int32) &&& 0x3f).toInt64))), .second, .unset, .unset] [(.long (((d0.toInt64) &&& (4503599627370495 : Int64)) ||| (4503599627370496 : Int64)))])) _
    refine XS.lstore X1.here hx rfl (hb hby d2_43) rfl (l' := #[.val (.double d0), .second, .val (.long (d0.toInt64)), .second, .val (.long (((d0.toInt64) &&& (9218868437227405312 : Int64)) >>> ((52 : Int32) &&& 0x3f).toInt64)), .second, .val (.long ((1074 : Int64) - (((d0.toInt64) &&& (9218868437227405312 : Int64)) >>> ((52 : Int32) &&& 0x3f).toInt64))), .second, .val (.long (((d0.toInt64) &&& (4503599627370495 : Int64)) ||| (4503599627370496 : Int64))), .second]) rfl ?_
    show Steps p.tables e below (T1.setTop (mkF m 45 #[.val (.double d0), .second, .val (.long (d0.toInt64)), .second, .val (.long (((d0.toInt64) &&& (9218868437227405312 : Int64)) >>> ((52 : Int32) &&& 0x3f).toInt64)), .second, .val (.long ((1074 : Int64) - (((d0.toInt64) &&& (9218868437227405312 : Int64)) >>> ((52 : Int32) &&& 0x3f).toInt64))), .second, .val (.long (((d0.toInt64) &&& (4503599627370495 : Int64)) ||| (4503599627370496 : Int64))), .second] [])) _
    refine XS.lloadN X1.here hx rfl (hb hby d2_45) rfl ?_
    show Steps p.tables e below (T1.setTop (mkF m 46 #[.val (.double d0), .second, .val (.long (d0.toInt64)), .second, .val (.long (((d0.toInt64) &&& (9218868437227405312 : Int64)) >>> ((52 : Int32) &&& 0x3f).toInt64)), .second, .val (.long ((1074 : Int64) - (((d0.toInt64) &&& (9218868437227405312 : Int64)) >>> ((52 : Int32) &&& 0x3f).toInt64))), .second, .val (.long (((d0.toInt64) &&& (4503599627370495 : Int64)) ||| (4503599627370496 : Int64))), .second] [(.long (d0.toInt64))])) _
    refine XS.lconst X1.here hx rfl (hb hby d2_46) ?_
    show Steps p.tables e below (T1.setTop (mkF m 47 #[.val (.double d0), .second, .val (.long (d0.toInt64)), .second, .val (.long (((d0.toInt64) &&& (9218868437227405312 : Int64)) >>> ((52 : Int32) &&& 0x3f).toInt64)), .second, .val (.long ((1074 : Int64) - (((d0.toInt64) &&& (9218868437227405312 : Int64)) >>> ((52 : Int32) &&& 0x3f).toInt64))), .second, .val (.long (((d0.toInt64) &&& (4503599627370495 : Int64)) ||| (4503599627370496 : Int64))), .second] [(.long (0 : Int64)), (.long (d0.toInt64))])) _
    refine XS.lcmp X1.here hx rfl (hb hby d2_47) rfl ?_
    show Steps p.tables e below (T1.setTop (mkF m 48 #[.val (.double d0), .second, .val (.long (d0.toInt64)), .second, .val (.long (((d0.toInt64) &&& (9218868437227405312 : Int64)) >>> ((52 : Int32) &&& 0x3f).toInt64)), .second, .val (.long ((1074 : Int64) - (((d0.toInt64) &&& (9218868437227405312 : Int64)) >>> ((52 : Int32) &&& 0x3f).toInt64))), .second, .val (.long (((d0.toInt64) &&& (4503599627370495 : Int64)) ||| (4503599627370496 : Int64))), .second] [(.int (lcmpW (d0.toInt64) (0 : Int64)))])) _
    refine jn2 _ ?_
    show Steps p.tables e below (T1.setTop (mkF m 56 #[.val (.double d0), .second, .val (.long (d0.toInt64)), .second, .val (.long (((d0.toInt64) &&& (9218868437227405312 : Int64)) >>> ((52 : Int32) &&& 0x3f).toInt64)), .second, .val (.long ((1074 : Int64) - (((d0.toInt64) &&& (9218868437227405312 : Int64)) >>> ((52 : Int32) &&& 0x3f).toInt64))), .second, .val (.long sg), .second] [])) _
    refine XS.lload X1.here hx rfl (hb hby d2_56) rfl ?_
    show Steps p.tables e below (T1.setTop (mkF m 58 #[.val (.double d0), .second, .val (.long (d0.toInt64)), .second, .val (.long (((d0.toInt64) &&& (9218868437227405312 : Int64)) >>> ((52 : Int32) &&& 0x3f).toInt64)), .second, .val (.long ((1074 : Int64) - (((d0.toInt64) &&& (9218868437227405312 : Int64)) >>> ((52 : Int32) &&& 0x3f).toInt64))), .second, .val (.long sg), .second] [(.long sg)])) _
    refine XS.lload X1.here hx rfl (hb hby d2_58) rfl ?_
    show Steps p.tables e below (T1.setTop (mkF m 60 #[.val (.double d0), .second, .val (.long (d0.toInt64)), .second, .val (.long (((d0.toInt64) &&& (9218868437227405312 : Int64)) >>> ((52 : Int32) &&& 0x3f).toInt64)), .second, .val (.long ((1074 : Int64) - (((d0.toInt64) &&& (9218868437227405312 : Int64)) >>> ((52 : Int32) &&& 0x3f).toInt64))), .second, .val (.long sg), .second] [(.long ((1074 : Int64) - (((d0.toInt64) &&& (9218868437227405312 : Int64)) >>> ((52 : Int32) &&& 0x3f).toInt64))), (.long sg)])) _
    refine XS.l2i X1.here hx rfl (hb hby d2_60) rfl ?_
    show Steps p.tables e below (T1.setTop (mkF m 61 #[.val (.double d0), .second, .val (.long (d0.toInt64)), .second, .val (.long (((d0.toInt64) &&& (9218868437227405312 : Int64)) >>> ((52 : Int32) &&& 0x3f).toInt64)), .second, .val (.long ((1074 : Int64) - (((d0.toInt64) &&& (9218868437227405312 : Int64)) >>> ((52 : Int32) &&& 0x3f).toInt64))), .second, .val (.long sg), .second] [(.int (((1074 : Int64) - (((d0.toInt64) &&& (9218868437227405312 : Int64)) >>> ((52 : Int32) &&& 0x3f).toInt64)).toInt32)), (.long sg)])) _
    refine XS.lshr X1.here hx rfl (hb hby d2_61) rfl ?_
    show Steps p.tables e below (T1.setTop (mkF m 62 #[.val (.double d0), .second, .val (.long (d0.toInt64)), .second, .val (.long (((d0.toInt64) &&& (9218868437227405312 : Int64)) >>> ((52 : Int32) &&& 0x3f).toInt64)), .second, .val (.long ((1074 : Int64) - (((d0.toInt64) &&& (9218868437227405312 : Int64)) >>> ((52 : Int32) &&& 0x3f).toInt64))), .second, .val (.long sg), .second] [(.long (sg >>> ((((1074 : Int64) - (((d0.toInt64) &&& (9218868437227405312 : Int64)) >>> ((52 : Int32) &&& 0x3f).toInt64)).toInt32) &&& 0x3f).toInt64))])) _
    refine XS.lconst X1.here hx rfl (hb hby d2_62) ?_
    show Steps p.tables e below (T1.setTop (mkF m 63 #[.val (.double d0), .second, .val (.long (d0.toInt64)), .second, .val (.long (((d0.toInt64) &&& (9218868437227405312 : Int64)) >>> ((52 : Int32) &&& 0x3f).toInt64)), .second, .val (.long ((1074 : Int64) - (((d0.toInt64) &&& (9218868437227405312 : Int64)) >>> ((52 : Int32) &&& 0x3f).toInt64))), .second, .val (.long sg), .second] [(.long (1 : Int64)), (.long (sg >>> ((((1074 : Int64) - (((d0.toInt64) &&& (9218868437227405312 : Int64)) >>> ((52 : Int32) &&& 0x3f).toInt64)).toInt32) &&& 0x3f).toInt64))])) _
    refine XS.ladd X1.here hx rfl (hb hby d2_63) rfl ?_
    show Steps p.tables e below (T1.setTop (mkF m 64 #[.val (.double d0), .second, .val (.long (d0.toInt64)), .second, .val (.long (((d0.toInt64) &&& (9218868437227405312 : Int64)) >>> ((52 : Int32) &&& 0x3f).toInt64)), .second, .val (.long ((1074 : Int64) - (((d0.toInt64) &&& (9218868437227405312 : Int64)) >>> ((52 : Int32) &&& 0x3f).toInt64))), .second, .val (.long sg), .second] [(.long ((sg >>> ((((1074 : Int64) - (((d0.toInt64) &&& (9218868437227405312 : Int64)) >>> ((52 : Int32) &&& 0x3f).toInt64)).toInt32) &&& 0x3f).toInt64) + (1 : Int64)))])) _
    refine XS.iconst X1.here hx rfl (hb hby d2_64) ?_
    show Steps p.tables e below (T1.setTop (mkF m 65 #[.val (.double d0), .second, .val (.long (d0.toInt64)), .second, .val (.long (((d0.toInt64) &&& (9218868437227405312 : Int64)) >>> ((52 : Int32) &&& 0x3f).toInt64)), .second, .val (.long ((1074 : Int64) - (((d0.toInt64) &&& (9218868437227405312 : Int64)) >>> ((52 : Int32) &&& 0x3f).toInt64))), .second, .val (.long sg), .second] [(.int (1 : Int32)), (.long ((sg >>> ((((1074 : Int64) - (((d0.toInt64) &&& (9218868437227405312 : Int64)) >>> ((52 : Int32) &&& 0x3f).toInt64)).toInt32) &&& 0x3f).toInt64) + (1 : Int64)))])) _
    refine XS.lshr X1.here hx rfl (hb hby d2_65) rfl ?_
    show Steps p.tables e below (T1.setTop (mkF m 66 #[.val (.double d0), .second, .val (.long (d0.toInt64)), .second, .val (.long (((d0.toInt64) &&& (9218868437227405312 : Int64)) >>> ((52 : Int32) &&& 0x3f).toInt64)), .second, .val (.long ((1074 : Int64) - (((d0.toInt64) &&& (9218868437227405312 : Int64)) >>> ((52 : Int32) &&& 0x3f).toInt64))), .second, .val (.long sg), .second] [(.long (((sg >>> ((((1074 : Int64) - (((d0.toInt64) &&& (9218868437227405312 : Int64)) >>> ((52 : Int32) &&& 0x3f).toInt64)).toInt32) &&& 0x3f).toInt64) + (1 : Int64)) >>> ((1 : Int32) &&& 0x3f).toInt64))])) _
    exact retOut X1 hx Bd.returns rfl (Or.inr (Or.inl ⟨rfl, rfl, _, rfl⟩)) (hb hby d2_66) hr
  · show Q_rdA Z d0 sg h0 n0 _ T1.heap _
    rw [e1]
    exact ⟨rfl, N0, rfl⟩
theorem d2_67 : decode jdk_29_method_22_code 67 = .ok (.dload_n 0, 1) := by decide +kernel
theorem d2_68 : decode jdk_29_method_22_code 68 = .ok (.d2l, 1) := by decide +kernel
theorem d2_69 : decode jdk_29_method_22_code 69 = .ok (.lreturn, 1) := by decide +kernel
def Q_rdB (Z : State) (d0 : UInt64) (h0 : Heap) (n0 : Nat) (v : Option Value) (h : Heap) (L : List Loc) : Prop := v = some (.long (FP.d2l d0)) ∧ Fr n0 L ∧ h = h0
set_option maxRecDepth 65536 in
set_option maxHeartbeats 40000000 in
theorem rdB (l : Launch) (Z : State) (a0 : Array Value) (hw : ∀ d ∈ tables_1, d.before a0 Z = true) (ws : List Jvm.Cond) (d0 : UInt64) (h0 : Heap) (n0 : Nat) (Z0 : n0 ≤ h0.size) (hc31 : ¬ ((lcmpW (((1074 : Int64) - (((d0.toInt64) &&& (9218868437227405312 : Int64)) >>> ((52 : Int32) &&& 0x3f).toInt64)) &&& (-64 : Int64)) (0 : Int64)) = (0 : Int32))) :
    MetFree l (⟨"java/lang/Math", "round", "(D)J"⟩ : MethodName) (head1 (Jvm.Cond.code (⟨"java/lang/Math", "round", "(D)J"⟩ : MethodName) jdk_29_method_22_code 10 (some .long) :: ws) ({ frames := 1, cells := 0, slots := 0, locals := 15 } : Room)) (fun a U => a = #[(.double d0)] ∧ Z.Warmed39 U.vm ∧ U.heap = h0) (fun _ _ _ _ _ => True) (fun _ U o U' => ∃ v L, o = .returned v ∧ Q_rdB Z d0 h0 n0 v U'.heap L ∧ FrameEnd U o U' L ({ frames := 1, cells := 0, slots := 0, locals := 15 } : Room).cells ({ frames := 1, cells := 0, slots := 0, locals := 15 } : Room).slots) := by
  refine MetFree.of_bodySF (Jvm.Free.JP.mathPlain rfl (by decide +kernel)) hisR ?_
  intro p e s m args below meth c s₁ Bd hml0 hP hK
  obtain ⟨rfl, hZ, hh⟩ := hP
  have hx := Bd.exec
  have hby := Bd.bytes
  have hml : c.maxLocals = 10 := hml0
  have hown : s.vm.findClass "java/lang/Math" = some m.cls := findClass_of_methodNamed Bd.named
  have hnm := (name_of_methodNamed Bd.named Bd.method).1
  have X0 : Stand p l e ({ frames := 1, cells := 0, slots := 0, locals := 15 } : Room) s m #[(.double d0)] below meth c s₁ [] 0 0 := Stand.of_body Bd
  have e0 : s₁.heap = h0 := by rw [← hh, Bd.state]; rfl
  have N0 := Fr.nil n0
  have pre0 : ∀ t, Steps p.tables e below (s₁.setTop (mkF m 0 #[.val (.double d0), .second, .unset, .unset, .unset, .unset, .unset, .unset, .unset, .unset] [])) t → Steps p.tables e below (s₁.setTop (entryFrame m #[(.double d0)] 10)) t := fun t k => castTop (ef_2_D m d0) k
  obtain ⟨T1, X1, e1, st1⟩ := own_bits X0 hx hZ hown (hw _ (List.mem_of_getElem? (i := 10) rfl)) (hw _ (List.mem_of_getElem? (i := 11) rfl)) (hw _ (List.mem_of_getElem? (i := 12) rfl)) (hw _ (List.mem_of_getElem? (i := 13) rfl)) e0 (W := 0) (g := (mkF m 1 #[.val (.double d0), .second, .unset, .unset, .unset, .unset, .unset, .unset, .unset, .unset] [(.double d0)])) rfl (by rw [hml]; rfl) rfl (by show 2 * 0 + _ ≤ _; exact Nat.le_of_eq rfl) (hb hby d2_1) (by decide) (by decide)
  obtain ⟨fs, hr, hrun, hended, hW, hsame⟩ := X1.leave (v := some (.long (FP.d2l d0))) (fun h => by rw [Bd.returns] at h; cases h)
  refine ⟨_, _, pre0 _ ?_, hrun, hended, _, _, rfl, ?_, ⟨_, rfl⟩, hW, hsame.mono (by decide) (by decide)⟩
  · show Steps p.tables e below (s₁.setTop (mkF m 0 #[.val (.double d0), .second, .unset, .unset, .unset, .unset, .unset, .unset, .unset, .unset] [])) _
    refine XS.dloadN X0.here hx rfl (hb hby d2_0) rfl ?_
    show Steps p.tables e below (s₁.setTop (mkF m 1 #[.val (.double d0), .second, .unset, .unset, .unset, .unset, .unset, .unset, .unset, .unset] [(.double d0)])) _
    refine st1 _ ?_
    show Steps p.tables e below (T1.setTop (mkF m 4 #[.val (.double d0), .second, .unset, .unset, .unset, .unset, .unset, .unset, .unset, .unset] [(.long (d0.toInt64))])) _
    refine XS.lstoreN X1.here hx rfl (hb hby d2_4) rfl (l' := #[.val (.double d0), .second, .val (.long (d0.toInt64)), .second, .unset, .unset, .unset, .unset, .unset, .unset]) rfl ?_
    show Steps p.tables e below (T1.setTop (mkF m 5 #[.val (.double d0), .second, .val (.long (d0.toInt64)), .second, .unset, .unset, .unset, .unset, .unset, .unset] [])) _
    refine XS.lloadN X1.here hx rfl (hb hby d2_5) rfl ?_
    show Steps p.tables e below (T1.setTop (mkF m 6 #[.val (.double d0), .second, .val (.long (d0.toInt64)), .second, .unset, .unset, .unset, .unset, .unset, .unset] [(.long (d0.toInt64))])) _
    refine X1.ldc2Long hx hown (mvT hZ (hw _ (List.mem_of_getElem? (i := 14) rfl))) (g := (mkF m 6 #[.val (.double d0), .second, .val (.long (d0.toInt64)), .second, .unset, .unset, .unset, .unset, .unset, .unset] [(.long (d0.toInt64))])) rfl (hb hby d2_6) _ ?_
    show Steps p.tables e below (T1.setTop (mkF m 9 #[.val (.double d0), .second, .val (.long (d0.toInt64)), .second, .unset, .unset, .unset, .unset, .unset, .unset] [(.long (9218868437227405312 : Int64)), (.long (d0.toInt64))])) _
    refine XS.land X1.here hx rfl (hb hby d2_9) rfl ?_
    show Steps p.tables e below (T1.setTop (mkF m 10 #[.val (.double d0), .second, .val (.long (d0.toInt64)), .second, .unset, .unset, .unset, .unset, .unset, .unset] [(.long ((d0.toInt64) &&& (9218868437227405312 : Int64)))])) _
    refine XS.bipush X1.here hx rfl (hb hby d2_10) ?_
    show Steps p.tables e below (T1.setTop (mkF m 12 #[.val (.double d0), .second, .val (.long (d0.toInt64)), .second, .unset, .unset, .unset, .unset, .unset, .unset] [(.int (52 : Int32)), (.long ((d0.toInt64) &&& (9218868437227405312 : Int64)))])) _
    refine XS.lshr X1.here hx rfl (hb hby d2_12) rfl ?_
    show Steps p.tables e below (T1.setTop (mkF m 13 #[.val (.double d0), .second, .val (.long (d0.toInt64)), .second, .unset, .unset, .unset, .unset, .unset, .unset] [(.long (((d0.toInt64) &&& (9218868437227405312 : Int64)) >>> ((52 : Int32) &&& 0x3f).toInt64))])) _
    refine XS.lstore X1.here hx rfl (hb hby d2_13) rfl (l' := #[.val (.double d0), .second, .val (.long (d0.toInt64)), .second, .val (.long (((d0.toInt64) &&& (9218868437227405312 : Int64)) >>> ((52 : Int32) &&& 0x3f).toInt64)), .second, .unset, .unset, .unset, .unset]) rfl ?_
    show Steps p.tables e below (T1.setTop (mkF m 15 #[.val (.double d0), .second, .val (.long (d0.toInt64)), .second, .val (.long (((d0.toInt64) &&& (9218868437227405312 : Int64)) >>> ((52 : Int32) &&& 0x3f).toInt64)), .second, .unset, .unset, .unset, .unset] [])) _
    refine X1.ldc2Long hx hown (mvT hZ (hw _ (List.mem_of_getElem? (i := 15) rfl))) (g := (mkF m 15 #[.val (.double d0), .second, .val (.long (d0.toInt64)), .second, .val (.long (((d0.toInt64) &&& (9218868437227405312 : Int64)) >>> ((52 : Int32) &&& 0x3f).toInt64)), .second, .unset, .unset, .unset, .unset] [])) rfl (hb hby d2_15) _ ?_
    show Steps p.tables e below (T1.setTop (mkF m 18 #[.val (.double d0), .second, .val (.long (d0.toInt64)), .second, .val (.long (((d0.toInt64) &&& (9218868437227405312 : Int64)) >>> ((52 : Int32) &&& 0x3f).toInt64)), .second, .unset, .unset, .unset, .unset] [(.long (1074 : Int64))])) _
    refine XS.lload X1.here hx rfl (hb hby d2_18) rfl ?_
    show Steps p.tables e below (T1.setTop (mkF m 20 #[.val (.double d0), .second, .val (.long (d0.toInt64)), .second, .val (.long (((d0.toInt64) &&& (9218868437227405312 : Int64)) >>> ((52 : Int32) &&& 0x3f).toInt64)), .second, .unset, .unset, .unset, .unset] [(.long (((d0.toInt64) &&& (9218868437227405312 : Int64)) >>> ((52 : Int32) &&& 0x3f).toInt64)), (.long (1074 : Int64))])) _
    refine XS.lsub X1.here hx rfl (hb hby d2_20) rfl ?_
    show Steps p.tables e below (T1.setTop (mkF m 21 #[.val (.double d0), .second, .val (.long (d0.toInt64)), .second, .val (.long (((d0.toInt64) &&& (9218868437227405312 : Int64)) >>> ((52 : Int32) &&& 0x3f).toInt64)), .second, .unset, .unset, .unset, .unset] [(.long ((1074 : Int64) - (((d0.toInt64) &&& (9218868437227405312 : Int64)) >>> ((52 : Int32) &&& 0x3f).toInt64)))])) _
    refine XS.lstore X1.here hx rfl (hb hby d2_21) rfl (l' := #[.val (.double d0), .second, .val (.long (d0.toInt64)), .second, .val (.long (((d0.toInt64) &&& (9218868437227405312 : Int64)) >>> ((52 : Int32) &&& 0x3f).toInt64)), .second, .val (.long ((1074 : Int64) - (((d0.toInt64) &&& (9218868437227405312 : Int64)) >>> ((52 : Int32) &&& 0x3f).toInt64))), .second, .unset, .unset]) rfl ?_
    show Steps p.tables e below (T1.setTop (mkF m 23 #[.val (.double d0), .second, .val (.long (d0.toInt64)), .second, .val (.long (((d0.toInt64) &&& (9218868437227405312 : Int64)) >>> ((52 : Int32) &&& 0x3f).toInt64)), .second, .val (.long ((1074 : Int64) - (((d0.toInt64) &&& (9218868437227405312 : Int64)) >>> ((52 : Int32) &&& 0x3f).toInt64))), .second, .unset, .unset] [])) _
    refine XS.lload X1.here hx rfl (hb hby d2_23) rfl ?_
    show Steps p.tables e below (T1.setTop (mkF m 25 #[.val (.double d0), .second, .val (.long (d0.toInt64)), .second, .val (.long (((d0.toInt64) &&& (9218868437227405312 : Int64)) >>> ((52 : Int32) &&& 0x3f).toInt64)), .second, .val (.long ((1074 : Int64) - (((d0.toInt64) &&& (9218868437227405312 : Int64)) >>> ((52 : Int32) &&& 0x3f).toInt64))), .second, .unset, .unset] [(.long ((1074 : Int64) - (((d0.toInt64) &&& (9218868437227405312 : Int64)) >>> ((52 : Int32) &&& 0x3f).toInt64)))])) _
    refine X1.ldc2Long hx hown (mvT hZ (hw _ (List.mem_of_getElem? (i := 16) rfl))) (g := (mkF m 25 #[.val (.double d0), .second, .val (.long (d0.toInt64)), .second, .val (.long (((d0.toInt64) &&& (9218868437227405312 : Int64)) >>> ((52 : Int32) &&& 0x3f).toInt64)), .second, .val (.long ((1074 : Int64) - (((d0.toInt64) &&& (9218868437227405312 : Int64)) >>> ((52 : Int32) &&& 0x3f).toInt64))), .second, .unset, .unset] [(.long ((1074 : Int64) - (((d0.toInt64) &&& (9218868437227405312 : Int64)) >>> ((52 : Int32) &&& 0x3f).toInt64)))])) rfl (hb hby d2_25) _ ?_
    show Steps p.tables e below (T1.setTop (mkF m 28 #[.val (.double d0), .second, .val (.long (d0.toInt64)), .second, .val (.long (((d0.toInt64) &&& (9218868437227405312 : Int64)) >>> ((52 : Int32) &&& 0x3f).toInt64)), .second, .val (.long ((1074 : Int64) - (((d0.toInt64) &&& (9218868437227405312 : Int64)) >>> ((52 : Int32) &&& 0x3f).toInt64))), .second, .unset, .unset] [(.long (-64 : Int64)), (.long ((1074 : Int64) - (((d0.toInt64) &&& (9218868437227405312 : Int64)) >>> ((52 : Int32) &&& 0x3f).toInt64)))])) _
    refine XS.land X1.here hx rfl (hb hby d2_28) rfl ?_
    show Steps p.tables e below (T1.setTop (mkF m 29 #[.val (.double d0), .second, .val (.long (d0.toInt64)), .second, .val (.long (((d0.toInt64) &&& (9218868437227405312 : Int64)) >>> ((52 : Int32) &&& 0x3f).toInt64)), .second, .val (.long ((1074 : Int64) - (((d0.toInt64) &&& (9218868437227405312 : Int64)) >>> ((52 : Int32) &&& 0x3f).toInt64))), .second, .unset, .unset] [(.long (((1074 : Int64) - (((d0.toInt64) &&& (9218868437227405312 : Int64)) >>> ((52 : Int32) &&& 0x3f).toInt64)) &&& (-64 : Int64)))])) _
    refine XS.lconst X1.here hx rfl (hb hby d2_29) ?_
    show Steps p.tables e below (T1.setTop (mkF m 30 #[.val (.double d0), .second, .val (.long (d0.toInt64)), .second, .val (.long (((d0.toInt64) &&& (9218868437227405312 : Int64)) >>> ((52 : Int32) &&& 0x3f).toInt64)), .second, .val (.long ((1074 : Int64) - (((d0.toInt64) &&& (9218868437227405312 : Int64)) >>> ((52 : Int32) &&& 0x3f).toInt64))), .second, .unset, .unset] [(.long (0 : Int64)), (.long (((1074 : Int64) - (((d0.toInt64) &&& (9218868437227405312 : Int64)) >>> ((52 : Int32) &&& 0x3f).toInt64)) &&& (-64 : Int64)))])) _
    refine XS.lcmp X1.here hx rfl (hb hby d2_30) rfl ?_
    show Steps p.tables e below (T1.setTop (mkF m 31 #[.val (.double d0), .second, .val (.long (d0.toInt64)), .second, .val (.long (((d0.toInt64) &&& (9218868437227405312 : Int64)) >>> ((52 : Int32) &&& 0x3f).toInt64)), .second, .val (.long ((1074 : Int64) - (((d0.toInt64) &&& (9218868437227405312 : Int64)) >>> ((52 : Int32) &&& 0x3f).toInt64))), .second, .unset, .unset] [(.int (lcmpW (((1074 : Int64) - (((d0.toInt64) &&& (9218868437227405312 : Int64)) >>> ((52 : Int32) &&& 0x3f).toInt64)) &&& (-64 : Int64)) (0 : Int64)))])) _
    refine XS.ifYes X1.here hx rfl (pc0 := 31) (pc' := 67) rfl (hb hby d2_31) rfl ((if0 _ _).trans (feq hc31).2) (by decide) (by decide) ?_
    show Steps p.tables e below (T1.setTop (mkF m 67 #[.val (.double d0), .second, .val (.long (d0.toInt64)), .second, .val (.long (((d0.toInt64) &&& (9218868437227405312 : Int64)) >>> ((52 : Int32) &&& 0x3f).toInt64)), .second, .val (.long ((1074 : Int64) - (((d0.toInt64) &&& (9218868437227405312 : Int64)) >>> ((52 : Int32) &&& 0x3f).toInt64))), .second, .unset, .unset] [])) _
    refine XS.dloadN X1.here hx rfl (hb hby d2_67) rfl ?_
    show Steps p.tables e below (T1.setTop (mkF m 68 #[.val (.double d0), .second, .val (.long (d0.toInt64)), .second, .val (.long (((d0.toInt64) &&& (9218868437227405312 : Int64)) >>> ((52 : Int32) &&& 0x3f).toInt64)), .second, .val (.long ((1074 : Int64) - (((d0.toInt64) &&& (9218868437227405312 : Int64)) >>> ((52 : Int32) &&& 0x3f).toInt64))), .second, .unset, .unset] [(.double d0)])) _
    refine XS.d2lS X1.here hx rfl (hb hby d2_68) rfl (v := (FP.d2l d0)) rfl ?_
    show Steps p.tables e below (T1.setTop (mkF m 69 #[.val (.double d0), .second, .val (.long (d0.toInt64)), .second, .val (.long (((d0.toInt64) &&& (9218868437227405312 : Int64)) >>> ((52 : Int32) &&& 0x3f).toInt64)), .second, .val (.long ((1074 : Int64) - (((d0.toInt64) &&& (9218868437227405312 : Int64)) >>> ((52 : Int32) &&& 0x3f).toInt64))), .second, .unset, .unset] [(.long (FP.d2l d0))])) _
    exact retOut X1 hx Bd.returns rfl (Or.inr (Or.inl ⟨rfl, rfl, _, rfl⟩)) (hb hby d2_69) hr
  · show Q_rdB Z d0 h0 n0 _ T1.heap _
    rw [e1]
    exact ⟨rfl, N0, rfl⟩
theorem d1_0 : decode prog_38_method_2_code 0 = .ok (.dload_n 0, 1) := by decide +kernel
theorem d1_1 : decode prog_38_method_2_code 1 = .ok (.ldc2_w 9, 3) := by decide +kernel
theorem d1_4 : decode prog_38_method_2_code 4 = .ok (.dmul, 1) := by decide +kernel
theorem d1_5 : decode prog_38_method_2_code 5 = .ok (.invokestatic 11, 3) := by decide +kernel
theorem pd_0 : parseMethodDescriptor "(D)J" = some ⟨[.double], some .long⟩ := by decide +kernel
theorem d1_8 : decode prog_38_method_2_code 8 = .ok (.lreturn, 1) := by decide +kernel
theorem pn_com_example_nelira_nelira_index_Millionths : plainName "com/example/nelira/nelira/index/Millionths" = true := by first | (simp [plainName, overriddenIn]; done) | decide +kernel
theorem ef_1_D (m : MethodId) (x0 : UInt64) : entryFrame m #[(.double x0)] 2 = mkF m 0 #[.val (.double x0), .second] [] := by first | (simp [entryFrame, mkF, argsToLocals, Value.category]; done) | rfl
def Q_mrA (Z : State) (d0 : UInt64) (sg : Int64) (y : UInt64) (h0 : Heap) (n0 : Nat) (v : Option Value) (h : Heap) (L : List Loc) : Prop := v = some (.long (((sg >>> ((((1074 : Int64) - (((y.toInt64) &&& (9218868437227405312 : Int64)) >>> ((52 : Int32) &&& 0x3f).toInt64)).toInt32) &&& 0x3f).toInt64) + (1 : Int64)) >>> ((1 : Int32) &&& 0x3f).toInt64)) ∧ Fr n0 L ∧ h = h0
set_option maxRecDepth 65536 in
set_option maxHeartbeats 40000000 in
theorem mrA (l : Launch) (Z : State) (a0 : Array Value) (hw : ∀ d ∈ tables_1, d.before a0 Z = true) (ws : List Jvm.Cond) (d0 : UInt64) (sg : Int64) (y : UInt64) (h0 : Heap) (n0 : Nat) (Z0 : n0 ≤ h0.size) (nn4 : Jvm.Free.Fl.NoNaN64 (FP.dmul d0 (4696837146684686336 : UInt64))) (hq4 : (FP.dmul d0 (4696837146684686336 : UInt64)) = y) (hc31_5 : (lcmpW (((1074 : Int64) - (((y.toInt64) &&& (9218868437227405312 : Int64)) >>> ((52 : Int32) &&& 0x3f).toInt64)) &&& (-64 : Int64)) (0 : Int64)) = (0 : Int32)) (hj_sg_5 : (if (lcmpW (y.toInt64) (0 : Int64)) < (0 : Int32) then (-(((y.toInt64) &&& (4503599627370495 : Int64)) ||| (4503599627370496 : Int64))) else (((y.toInt64) &&& (4503599627370495 : Int64)) ||| (4503599627370496 : Int64))) = sg) :
    MetFree l (⟨"com/example/nelira/nelira/index/Millionths", "round", "(D)J"⟩ : MethodName) (head1 (Jvm.Cond.code (⟨"com/example/nelira/nelira/index/Millionths", "round", "(D)J"⟩ : MethodName) prog_38_method_2_code 2 (some .long) :: ws) ({ frames := 2, cells := 0, slots := 0, locals := 36 } : Room)) (fun a U => a = #[(.double d0)] ∧ Z.Warmed39 U.vm ∧ U.heap = h0) (fun _ _ _ _ _ => True) (fun _ U o U' => ∃ v L, o = .returned v ∧ Q_mrA Z d0 sg y h0 n0 v U'.heap L ∧ FrameEnd U o U' L ({ frames := 2, cells := 0, slots := 0, locals := 36 } : Room).cells ({ frames := 2, cells := 0, slots := 0, locals := 36 } : Room).slots) := by
  refine MetFree.of_bodySF (plainFor_of_name pn_com_example_nelira_nelira_index_Millionths) hisR ?_
  intro p e s m args below meth c s₁ Bd hml0 hP hK
  obtain ⟨rfl, hZ, hh⟩ := hP
  have hx := Bd.exec
  have hby := Bd.bytes
  have hml : c.maxLocals = 2 := hml0
  have hown : s.vm.findClass "com/example/nelira/nelira/index/Millionths" = some m.cls := findClass_of_methodNamed Bd.named
  have hnm := (name_of_methodNamed Bd.named Bd.method).1
  have X0 : Stand p l e ({ frames := 2, cells := 0, slots := 0, locals := 36 } : Room) s m #[(.double d0)] below meth c s₁ [] 0 0 := Stand.of_body Bd
  have e0 : s₁.heap = h0 := by rw [← hh, Bd.state]; rfl
  have N0 := Fr.nil n0
  have pre0 : ∀ t, Steps p.tables e below (s₁.setTop (mkF m 0 #[.val (.double d0), .second] [])) t → Steps p.tables e below (s₁.setTop (entryFrame m #[(.double d0)] 2)) t := fun t k => castTop (ef_1_D m d0) k
  obtain ⟨_, _, ⟨T1, L1, k1, n1⟩, -, X1, ⟨Lc1, hQ1, l1, y1, z1⟩, st1⟩ := Jvm.LawKit.callS X0 hx (y := (⟨"java/lang/Math", "round", "(D)J"⟩ : MethodName)) hown (mvT hZ (hw _ (List.mem_of_getElem? (i := 6) rfl))) (mvT hZ (hw _ (List.mem_of_getElem? (i := 7) rfl))) (mvT hZ (hw _ (List.mem_of_getElem? (i := 8) rfl))) (mvT hZ (hw _ (List.mem_of_getElem? (i := 9) rfl))) (by decide) (backOf (W := 0) (rdA l Z a0 hw [] y sg h0 n0 Z0 hc31_5 hj_sg_5) hZ (hw _ (List.mem_of_getElem? (i := 9) rfl)) (hw _ (List.mem_of_getElem? (i := 8) rfl)) (by decide) (by decide)) (g := (mkF m 5 #[.val (.double d0), .second] [(.double y)])) rfl (by rw [hml]; rfl) (argsL := [(.double y)]) (rest := []) (lenOf pd_0 rfl) rfl (by show 2 * 0 + _ ≤ _; exact Nat.le_of_eq rfl) (hb hby d1_5) (fun _ _ => ⟨rfl, e0, (by decide : 0 + 0 ≤ _), (by decide : 0 + 0 ≤ _)⟩)
  dsimp only [Pt.U, Pt.locs, Pt.cells, Pt.slots] at X1 l1 y1 z1 st1 hQ1
  subst l1 y1 z1
  obtain ⟨rfl, N1q, eh1⟩ := hQ1
  have N1 := Fr.app N0 N1q
  have e1 : T1.heap = h0 := eh1
  obtain ⟨fs, hr, hrun, hended, hW, hsame⟩ := X1.leave (v := some (.long (((sg >>> ((((1074 : Int64) - (((y.toInt64) &&& (9218868437227405312 : Int64)) >>> ((52 : Int32) &&& 0x3f).toInt64)).toInt32) &&& 0x3f).toInt64) + (1 : Int64)) >>> ((1 : Int32) &&& 0x3f).toInt64))) (fun h => by rw [Bd.returns] at h; cases h)
  refine ⟨_, _, pre0 _ ?_, hrun, hended, _, _, rfl, ?_, ⟨_, rfl⟩, hW, hsame.mono (by decide) (by decide)⟩
  · show Steps p.tables e below (s₁.setTop (mkF m 0 #[.val (.double d0), .second] [])) _
    refine XS.dloadN X0.here hx rfl (hb hby d1_0) rfl ?_
    show Steps p.tables e below (s₁.setTop (mkF m 1 #[.val (.double d0), .second] [(.double d0)])) _
    refine X0.ldc2DoubleC hx hown (mvT hZ (hw _ (List.mem_of_getElem? (i := 5) rfl))) (g := (mkF m 1 #[.val (.double d0), .second] [(.double d0)])) rfl (hb hby d1_1) _ ?_
    show Steps p.tables e below (s₁.setTop (mkF m 4 #[.val (.double d0), .second] [(.double (4696837146684686336 : UInt64)), (.double d0)])) _
    refine XS.dmulS X0.here hx rfl (hb hby d1_4) rfl nn4 (v := y) hq4 ?_
    show Steps p.tables e below (s₁.setTop (mkF m 5 #[.val (.double d0), .second] [(.double y)])) _
    refine st1 _ ?_
    show Steps p.tables e below (T1.setTop (mkF m 8 #[.val (.double d0), .second] [(.long (((sg >>> ((((1074 : Int64) - (((y.toInt64) &&& (9218868437227405312 : Int64)) >>> ((52 : Int32) &&& 0x3f).toInt64)).toInt32) &&& 0x3f).toInt64) + (1 : Int64)) >>> ((1 : Int32) &&& 0x3f).toInt64))])) _
    exact retOut X1 hx Bd.returns rfl (Or.inr (Or.inl ⟨rfl, rfl, _, rfl⟩)) (hb hby d1_8) hr
  · show Q_mrA Z d0 sg y h0 n0 _ T1.heap _
    rw [e1]
    exact ⟨rfl, N1, rfl⟩
def Q_mrB (Z : State) (d0 : UInt64) (y : UInt64) (h0 : Heap) (n0 : Nat) (v : Option Value) (h : Heap) (L : List Loc) : Prop := v = some (.long (FP.d2l y)) ∧ Fr n0 L ∧ h = h0
set_option maxRecDepth 65536 in
set_option maxHeartbeats 40000000 in
theorem mrB (l : Launch) (Z : State) (a0 : Array Value) (hw : ∀ d ∈ tables_1, d.before a0 Z = true) (ws : List Jvm.Cond) (d0 : UInt64) (y : UInt64) (h0 : Heap) (n0 : Nat) (Z0 : n0 ≤ h0.size) (nn4 : Jvm.Free.Fl.NoNaN64 (FP.dmul d0 (4696837146684686336 : UInt64))) (hq4 : (FP.dmul d0 (4696837146684686336 : UInt64)) = y) (hc31_5 : ¬ ((lcmpW (((1074 : Int64) - (((y.toInt64) &&& (9218868437227405312 : Int64)) >>> ((52 : Int32) &&& 0x3f).toInt64)) &&& (-64 : Int64)) (0 : Int64)) = (0 : Int32))) :
    MetFree l (⟨"com/example/nelira/nelira/index/Millionths", "round", "(D)J"⟩ : MethodName) (head1 (Jvm.Cond.code (⟨"com/example/nelira/nelira/index/Millionths", "round", "(D)J"⟩ : MethodName) prog_38_method_2_code 2 (some .long) :: ws) ({ frames := 2, cells := 0, slots := 0, locals := 36 } : Room)) (fun a U => a = #[(.double d0)] ∧ Z.Warmed39 U.vm ∧ U.heap = h0) (fun _ _ _ _ _ => True) (fun _ U o U' => ∃ v L, o = .returned v ∧ Q_mrB Z d0 y h0 n0 v U'.heap L ∧ FrameEnd U o U' L ({ frames := 2, cells := 0, slots := 0, locals := 36 } : Room).cells ({ frames := 2, cells := 0, slots := 0, locals := 36 } : Room).slots) := by
  refine MetFree.of_bodySF (plainFor_of_name pn_com_example_nelira_nelira_index_Millionths) hisR ?_
  intro p e s m args below meth c s₁ Bd hml0 hP hK
  obtain ⟨rfl, hZ, hh⟩ := hP
  have hx := Bd.exec
  have hby := Bd.bytes
  have hml : c.maxLocals = 2 := hml0
  have hown : s.vm.findClass "com/example/nelira/nelira/index/Millionths" = some m.cls := findClass_of_methodNamed Bd.named
  have hnm := (name_of_methodNamed Bd.named Bd.method).1
  have X0 : Stand p l e ({ frames := 2, cells := 0, slots := 0, locals := 36 } : Room) s m #[(.double d0)] below meth c s₁ [] 0 0 := Stand.of_body Bd
  have e0 : s₁.heap = h0 := by rw [← hh, Bd.state]; rfl
  have N0 := Fr.nil n0
  have pre0 : ∀ t, Steps p.tables e below (s₁.setTop (mkF m 0 #[.val (.double d0), .second] [])) t → Steps p.tables e below (s₁.setTop (entryFrame m #[(.double d0)] 2)) t := fun t k => castTop (ef_1_D m d0) k
  obtain ⟨_, _, ⟨T1, L1, k1, n1⟩, -, X1, ⟨Lc1, hQ1, l1, y1, z1⟩, st1⟩ := Jvm.LawKit.callS X0 hx (y := (⟨"java/lang/Math", "round", "(D)J"⟩ : MethodName)) hown (mvT hZ (hw _ (List.mem_of_getElem? (i := 6) rfl))) (mvT hZ (hw _ (List.mem_of_getElem? (i := 7) rfl))) (mvT hZ (hw _ (List.mem_of_getElem? (i := 8) rfl))) (mvT hZ (hw _ (List.mem_of_getElem? (i := 9) rfl))) (by decide) (backOf (W := 0) (rdB l Z a0 hw [] y h0 n0 Z0 hc31_5) hZ (hw _ (List.mem_of_getElem? (i := 9) rfl)) (hw _ (List.mem_of_getElem? (i := 8) rfl)) (by decide) (by decide)) (g := (mkF m 5 #[.val (.double d0), .second] [(.double y)])) rfl (by rw [hml]; rfl) (argsL := [(.double y)]) (rest := []) (lenOf pd_0 rfl) rfl (by show 2 * 0 + _ ≤ _; exact Nat.le_of_eq rfl) (hb hby d1_5) (fun _ _ => ⟨rfl, e0, (by decide : 0 + 0 ≤ _), (by decide : 0 + 0 ≤ _)⟩)
  dsimp only [Pt.U, Pt.locs, Pt.cells, Pt.slots] at X1 l1 y1 z1 st1 hQ1
  subst l1 y1 z1
  obtain ⟨rfl, N1q, eh1⟩ := hQ1
  have N1 := Fr.app N0 N1q
  have e1 : T1.heap = h0 := eh1
  obtain ⟨fs, hr, hrun, hended, hW, hsame⟩ := X1.leave (v := some (.long (FP.d2l y))) (fun h => by rw [Bd.returns] at h; cases h)
  refine ⟨_, _, pre0 _ ?_, hrun, hended, _, _, rfl, ?_, ⟨_, rfl⟩, hW, hsame.mono (by decide) (by decide)⟩
  · show Steps p.tables e below (s₁.setTop (mkF m 0 #[.val (.double d0), .second] [])) _
    refine XS.dloadN X0.here hx rfl (hb hby d1_0) rfl ?_
    show Steps p.tables e below (s₁.setTop (mkF m 1 #[.val (.double d0), .second] [(.double d0)])) _
    refine X0.ldc2DoubleC hx hown (mvT hZ (hw _ (List.mem_of_getElem? (i := 5) rfl))) (g := (mkF m 1 #[.val (.double d0), .second] [(.double d0)])) rfl (hb hby d1_1) _ ?_
    show Steps p.tables e below (s₁.setTop (mkF m 4 #[.val (.double d0), .second] [(.double (4696837146684686336 : UInt64)), (.double d0)])) _
    refine XS.dmulS X0.here hx rfl (hb hby d1_4) rfl nn4 (v := y) hq4 ?_
    show Steps p.tables e below (s₁.setTop (mkF m 5 #[.val (.double d0), .second] [(.double y)])) _
    refine st1 _ ?_
    show Steps p.tables e below (T1.setTop (mkF m 8 #[.val (.double d0), .second] [(.long (FP.d2l y))])) _
    exact retOut X1 hx Bd.returns rfl (Or.inr (Or.inl ⟨rfl, rfl, _, rfl⟩)) (hb hby d1_8) hr
  · show Q_mrB Z d0 y h0 n0 _ T1.heap _
    rw [e1]
    exact ⟨rfl, N1, rfl⟩
theorem d3_0 : decode prog_38_method_3_code 0 = .ok (.dload_n 0, 1) := by decide +kernel
theorem d3_1 : decode prog_38_method_3_code 1 = .ok (.ldc2_w 9, 3) := by decide +kernel
theorem d3_4 : decode prog_38_method_3_code 4 = .ok (.dmul, 1) := by decide +kernel
theorem d3_5 : decode prog_38_method_3_code 5 = .ok (.lload_n 2, 1) := by decide +kernel
theorem d3_6 : decode prog_38_method_3_code 6 = .ok (.l2d, 1) := by decide +kernel
theorem d3_7 : decode prog_38_method_3_code 7 = .ok (.ldc2_w 17, 3) := by decide +kernel
theorem d3_10 : decode prog_38_method_3_code 10 = .ok (.dsub, 1) := by decide +kernel
theorem d3_11 : decode prog_38_method_3_code 11 = .ok (.dcmp .g, 1) := by decide +kernel
theorem d3_12 : decode prog_38_method_3_code 12 = .ok (.ifCond .ge 7, 3) := by decide +kernel
theorem d3_15 : decode prog_38_method_3_code 15 = .ok (.iconst 1, 1) := by decide +kernel
theorem d3_16 : decode prog_38_method_3_code 16 = .ok (.goto 4, 3) := by decide +kernel
theorem d3_20 : decode prog_38_method_3_code 20 = .ok (.ireturn, 1) := by decide +kernel
theorem ef_3_DJ (m : MethodId) (x0 : UInt64) (x1 : Int64) : entryFrame m #[(.double x0), (.long x1)] 4 = mkF m 0 #[.val (.double x0), .second, .val (.long x1), .second] [] := by first | (simp [entryFrame, mkF, argsToLocals, Value.category]; done) | rfl
def Q_rbT (Z : State) (d0 : UInt64) (mm : Int64) (y : UInt64) (h0 : Heap) (n0 : Nat) (v : Option Value) (h : Heap) (L : List Loc) : Prop := v = some (.int (1 : Int32)) ∧ Fr n0 L ∧ h = h0
set_option maxRecDepth 65536 in
set_option maxHeartbeats 40000000 in
theorem rbT (l : Launch) (Z : State) (a0 : Array Value) (hw : ∀ d ∈ tables_1, d.before a0 Z = true) (ws : List Jvm.Cond) (d0 : UInt64) (mm : Int64) (y : UInt64) (h0 : Heap) (n0 : Nat) (Z0 : n0 ≤ h0.size) (nn4 : Jvm.Free.Fl.NoNaN64 (FP.dmul d0 (4696837146684686336 : UInt64))) (hq4 : (FP.dmul d0 (4696837146684686336 : UInt64)) = y) (nn10 : Jvm.Free.Fl.NoNaN64 (FP.dsub (FP.l2d mm) (4602678819172646912 : UInt64))) (hc12 : (cmpValue (FP.dcmp y (FP.dsub (FP.l2d mm) (4602678819172646912 : UInt64))) .g) < (0 : Int32)) :
    MetFree l (⟨"com/example/nelira/nelira/index/Millionths", "roundsBelow", "(DJ)Z"⟩ : MethodName) (head1 (Jvm.Cond.code (⟨"com/example/nelira/nelira/index/Millionths", "roundsBelow", "(DJ)Z"⟩ : MethodName) prog_38_method_3_code 4 (some .boolean) :: ws) ({ frames := 0, cells := 0, slots := 0, locals := 0 } : Room)) (fun a U => a = #[(.double d0), (.long mm)] ∧ Z.Warmed39 U.vm ∧ U.heap = h0) (fun _ _ _ _ _ => True) (fun _ U o U' => ∃ v L, o = .returned v ∧ Q_rbT Z d0 mm y h0 n0 v U'.heap L ∧ FrameEnd U o U' L ({ frames := 0, cells := 0, slots := 0, locals := 0 } : Room).cells ({ frames := 0, cells := 0, slots := 0, locals := 0 } : Room).slots) := by
  refine MetFree.of_bodySF (plainFor_of_name pn_com_example_nelira_nelira_index_Millionths) hisR ?_
  intro p e s m args below meth c s₁ Bd hml0 hP hK
  obtain ⟨rfl, hZ, hh⟩ := hP
  have hx := Bd.exec
  have hby := Bd.bytes
  have hml : c.maxLocals = 4 := hml0
  have hown : s.vm.findClass "com/example/nelira/nelira/index/Millionths" = some m.cls := findClass_of_methodNamed Bd.named
  have hnm := (name_of_methodNamed Bd.named Bd.method).1
  have X0 : Stand p l e ({ frames := 0, cells := 0, slots := 0, locals := 0 } : Room) s m #[(.double d0), (.long mm)] below meth c s₁ [] 0 0 := Stand.of_body Bd
  have e0 : s₁.heap = h0 := by rw [← hh, Bd.state]; rfl
  have N0 := Fr.nil n0
  have pre0 : ∀ t, Steps p.tables e below (s₁.setTop (mkF m 0 #[.val (.double d0), .second, .val (.long mm), .second] [])) t → Steps p.tables e below (s₁.setTop (entryFrame m #[(.double d0), (.long mm)] 4)) t := fun t k => castTop (ef_3_DJ m d0 mm) k
  obtain ⟨fs, hr, hrun, hended, hW, hsame⟩ := X0.leave (v := some (.int (1 : Int32))) (fun h => by rw [Bd.returns] at h; cases h)
  refine ⟨_, _, pre0 _ ?_, hrun, hended, _, _, rfl, ?_, ⟨_, rfl⟩, hW, hsame.mono (by decide) (by decide)⟩
  · show Steps p.tables e below (s₁.setTop (mkF m 0 #[.val (.double d0), .second, .val (.long mm), .second] [])) _
    refine XS.dloadN X0.here hx rfl (hb hby d3_0) rfl ?_
    show Steps p.tables e below (s₁.setTop (mkF m 1 #[.val (.double d0), .second, .val (.long mm), .second] [(.double d0)])) _
    refine X0.ldc2DoubleC hx hown (mvT hZ (hw _ (List.mem_of_getElem? (i := 5) rfl))) (g := (mkF m 1 #[.val (.double d0), .second, .val (.long mm), .second] [(.double d0)])) rfl (hb hby d3_1) _ ?_
    show Steps p.tables e below (s₁.setTop (mkF m 4 #[.val (.double d0), .second, .val (.long mm), .second] [(.double (4696837146684686336 : UInt64)), (.double d0)])) _
    refine XS.dmulS X0.here hx rfl (hb hby d3_4) rfl nn4 (v := y) hq4 ?_
    show Steps p.tables e below (s₁.setTop (mkF m 5 #[.val (.double d0), .second, .val (.long mm), .second] [(.double y)])) _
    refine XS.lloadN X0.here hx rfl (hb hby d3_5) rfl ?_
    show Steps p.tables e below (s₁.setTop (mkF m 6 #[.val (.double d0), .second, .val (.long mm), .second] [(.long mm), (.double y)])) _
    refine XS.l2dS X0.here hx rfl (hb hby d3_6) rfl (v := (FP.l2d mm)) rfl ?_
    show Steps p.tables e below (s₁.setTop (mkF m 7 #[.val (.double d0), .second, .val (.long mm), .second] [(.double (FP.l2d mm)), (.double y)])) _
    refine X0.ldc2DoubleC hx hown (mvT hZ (hw _ (List.mem_of_getElem? (i := 24) rfl))) (g := (mkF m 7 #[.val (.double d0), .second, .val (.long mm), .second] [(.double (FP.l2d mm)), (.double y)])) rfl (hb hby d3_7) _ ?_
    show Steps p.tables e below (s₁.setTop (mkF m 10 #[.val (.double d0), .second, .val (.long mm), .second] [(.double (4602678819172646912 : UInt64)), (.double (FP.l2d mm)), (.double y)])) _
    refine XS.dsubS X0.here hx rfl (hb hby d3_10) rfl nn10 (v := (FP.dsub (FP.l2d mm) (4602678819172646912 : UInt64))) rfl ?_
    show Steps p.tables e below (s₁.setTop (mkF m 11 #[.val (.double d0), .second, .val (.long mm), .second] [(.double (FP.dsub (FP.l2d mm) (4602678819172646912 : UInt64))), (.double y)])) _
    refine XS.dcmpS X0.here hx rfl (hb hby d3_11) rfl (v := (cmpValue (FP.dcmp y (FP.dsub (FP.l2d mm) (4602678819172646912 : UInt64))) .g)) rfl ?_
    show Steps p.tables e below (s₁.setTop (mkF m 12 #[.val (.double d0), .second, .val (.long mm), .second] [(.int (cmpValue (FP.dcmp y (FP.dsub (FP.l2d mm) (4602678819172646912 : UInt64))) .g))])) _
    refine XS.ifNo X0.here hx rfl (hb hby d3_12) rfl ((if0 _ _).trans (tlt hc12).2.1) ?_
    show Steps p.tables e below (s₁.setTop (mkF m 15 #[.val (.double d0), .second, .val (.long mm), .second] [])) _
    refine XS.iconst X0.here hx rfl (hb hby d3_15) ?_
    show Steps p.tables e below (s₁.setTop (mkF m 16 #[.val (.double d0), .second, .val (.long mm), .second] [(.int (1 : Int32))])) _
    refine XS.goto X0.here hx rfl (pc0 := 16) (pc' := 20) rfl (hb hby d3_16) (by decide) (by decide) ?_
    show Steps p.tables e below (s₁.setTop (mkF m 20 #[.val (.double d0), .second, .val (.long mm), .second] [(.int (1 : Int32))])) _
    exact retN X0 hx (t := .boolean) Bd.returns (by simp) (hb hby d3_20) hr
  · show Q_rbT Z d0 mm y h0 n0 _ s₁.heap _
    rw [e0]
    exact ⟨rfl, N0, rfl⟩
theorem d3_19 : decode prog_38_method_3_code 19 = .ok (.iconst 0, 1) := by decide +kernel
def Q_rbF (Z : State) (d0 : UInt64) (mm : Int64) (y : UInt64) (h0 : Heap) (n0 : Nat) (v : Option Value) (h : Heap) (L : List Loc) : Prop := v = some (.int (0 : Int32)) ∧ Fr n0 L ∧ h = h0
set_option maxRecDepth 65536 in
set_option maxHeartbeats 40000000 in
theorem rbF (l : Launch) (Z : State) (a0 : Array Value) (hw : ∀ d ∈ tables_1, d.before a0 Z = true) (ws : List Jvm.Cond) (d0 : UInt64) (mm : Int64) (y : UInt64) (h0 : Heap) (n0 : Nat) (Z0 : n0 ≤ h0.size) (nn4 : Jvm.Free.Fl.NoNaN64 (FP.dmul d0 (4696837146684686336 : UInt64))) (hq4 : (FP.dmul d0 (4696837146684686336 : UInt64)) = y) (nn10 : Jvm.Free.Fl.NoNaN64 (FP.dsub (FP.l2d mm) (4602678819172646912 : UInt64))) (hc12 : ¬ ((cmpValue (FP.dcmp y (FP.dsub (FP.l2d mm) (4602678819172646912 : UInt64))) .g) < (0 : Int32))) :
    MetFree l (⟨"com/example/nelira/nelira/index/Millionths", "roundsBelow", "(DJ)Z"⟩ : MethodName) (head1 (Jvm.Cond.code (⟨"com/example/nelira/nelira/index/Millionths", "roundsBelow", "(DJ)Z"⟩ : MethodName) prog_38_method_3_code 4 (some .boolean) :: ws) ({ frames := 0, cells := 0, slots := 0, locals := 0 } : Room)) (fun a U => a = #[(.double d0), (.long mm)] ∧ Z.Warmed39 U.vm ∧ U.heap = h0) (fun _ _ _ _ _ => True) (fun _ U o U' => ∃ v L, o = .returned v ∧ Q_rbF Z d0 mm y h0 n0 v U'.heap L ∧ FrameEnd U o U' L ({ frames := 0, cells := 0, slots := 0, locals := 0 } : Room).cells ({ frames := 0, cells := 0, slots := 0, locals := 0 } : Room).slots) := by
  refine MetFree.of_bodySF (plainFor_of_name pn_com_example_nelira_nelira_index_Millionths) hisR ?_
  intro p e s m args below meth c s₁ Bd hml0 hP hK
  obtain ⟨rfl, hZ, hh⟩ := hP
  have hx := Bd.exec
  have hby := Bd.bytes
  have hml : c.maxLocals = 4 := hml0
  have hown : s.vm.findClass "com/example/nelira/nelira/index/Millionths" = some m.cls := findClass_of_methodNamed Bd.named
  have hnm := (name_of_methodNamed Bd.named Bd.method).1
  have X0 : Stand p l e ({ frames := 0, cells := 0, slots := 0, locals := 0 } : Room) s m #[(.double d0), (.long mm)] below meth c s₁ [] 0 0 := Stand.of_body Bd
  have e0 : s₁.heap = h0 := by rw [← hh, Bd.state]; rfl
  have N0 := Fr.nil n0
  have pre0 : ∀ t, Steps p.tables e below (s₁.setTop (mkF m 0 #[.val (.double d0), .second, .val (.long mm), .second] [])) t → Steps p.tables e below (s₁.setTop (entryFrame m #[(.double d0), (.long mm)] 4)) t := fun t k => castTop (ef_3_DJ m d0 mm) k
  obtain ⟨fs, hr, hrun, hended, hW, hsame⟩ := X0.leave (v := some (.int (0 : Int32))) (fun h => by rw [Bd.returns] at h; cases h)
  refine ⟨_, _, pre0 _ ?_, hrun, hended, _, _, rfl, ?_, ⟨_, rfl⟩, hW, hsame.mono (by decide) (by decide)⟩
  · show Steps p.tables e below (s₁.setTop (mkF m 0 #[.val (.double d0), .second, .val (.long mm), .second] [])) _
    refine XS.dloadN X0.here hx rfl (hb hby d3_0) rfl ?_
    show Steps p.tables e below (s₁.setTop (mkF m 1 #[.val (.double d0), .second, .val (.long mm), .second] [(.double d0)])) _
    refine X0.ldc2DoubleC hx hown (mvT hZ (hw _ (List.mem_of_getElem? (i := 5) rfl))) (g := (mkF m 1 #[.val (.double d0), .second, .val (.long mm), .second] [(.double d0)])) rfl (hb hby d3_1) _ ?_
    show Steps p.tables e below (s₁.setTop (mkF m 4 #[.val (.double d0), .second, .val (.long mm), .second] [(.double (4696837146684686336 : UInt64)), (.double d0)])) _
    refine XS.dmulS X0.here hx rfl (hb hby d3_4) rfl nn4 (v := y) hq4 ?_
    show Steps p.tables e below (s₁.setTop (mkF m 5 #[.val (.double d0), .second, .val (.long mm), .second] [(.double y)])) _
    refine XS.lloadN X0.here hx rfl (hb hby d3_5) rfl ?_
    show Steps p.tables e below (s₁.setTop (mkF m 6 #[.val (.double d0), .second, .val (.long mm), .second] [(.long mm), (.double y)])) _
    refine XS.l2dS X0.here hx rfl (hb hby d3_6) rfl (v := (FP.l2d mm)) rfl ?_
    show Steps p.tables e below (s₁.setTop (mkF m 7 #[.val (.double d0), .second, .val (.long mm), .second] [(.double (FP.l2d mm)), (.double y)])) _
    refine X0.ldc2DoubleC hx hown (mvT hZ (hw _ (List.mem_of_getElem? (i := 24) rfl))) (g := (mkF m 7 #[.val (.double d0), .second, .val (.long mm), .second] [(.double (FP.l2d mm)), (.double y)])) rfl (hb hby d3_7) _ ?_
    show Steps p.tables e below (s₁.setTop (mkF m 10 #[.val (.double d0), .second, .val (.long mm), .second] [(.double (4602678819172646912 : UInt64)), (.double (FP.l2d mm)), (.double y)])) _
    refine XS.dsubS X0.here hx rfl (hb hby d3_10) rfl nn10 (v := (FP.dsub (FP.l2d mm) (4602678819172646912 : UInt64))) rfl ?_
    show Steps p.tables e below (s₁.setTop (mkF m 11 #[.val (.double d0), .second, .val (.long mm), .second] [(.double (FP.dsub (FP.l2d mm) (4602678819172646912 : UInt64))), (.double y)])) _
    refine XS.dcmpS X0.here hx rfl (hb hby d3_11) rfl (v := (cmpValue (FP.dcmp y (FP.dsub (FP.l2d mm) (4602678819172646912 : UInt64))) .g)) rfl ?_
    show Steps p.tables e below (s₁.setTop (mkF m 12 #[.val (.double d0), .second, .val (.long mm), .second] [(.int (cmpValue (FP.dcmp y (FP.dsub (FP.l2d mm) (4602678819172646912 : UInt64))) .g))])) _
    refine XS.ifYes X0.here hx rfl (pc0 := 12) (pc' := 19) rfl (hb hby d3_12) rfl ((if0 _ _).trans (flt hc12).2.1) (by decide) (by decide) ?_
    show Steps p.tables e below (s₁.setTop (mkF m 19 #[.val (.double d0), .second, .val (.long mm), .second] [])) _
    refine XS.iconst X0.here hx rfl (hb hby d3_19) ?_
    show Steps p.tables e below (s₁.setTop (mkF m 20 #[.val (.double d0), .second, .val (.long mm), .second] [(.int (0 : Int32))])) _
    exact retN X0 hx (t := .boolean) Bd.returns (by simp) (hb hby d3_20) hr
  · show Q_rbF Z d0 mm y h0 n0 _ s₁.heap _
    rw [e0]
    exact ⟨rfl, N0, rfl⟩
theorem pd_1 : parseMethodDescriptor "(DJ)Z" = some ⟨[.double, .long], some .boolean⟩ := by decide +kernel
theorem pn_com_example_nelira_nelira_index_MillionthsRoundsBelowPinLaw : plainName "com/example/nelira/nelira/index/MillionthsRoundsBelowPinLaw" = true := by first | (simp [plainName, overriddenIn]; done) | decide +kernel
theorem ef_0_JIJI (m : MethodId) (x0 : Int64) (x1 : Int32) (x2 : Int64) (x3 : Int32) : entryFrame m #[(.long x0), (.int x1), (.long x2), (.int x3)] maxLocals = mkF m 0 #[.val (.long x0), .second, .val (.int x1), .val (.long x2), .second, .val (.int x3), .unset, .unset, .unset, .unset, .unset, .unset, .unset, .unset] [] := by first | (simp [entryFrame, mkF, argsToLocals, Value.category, maxLocals]; done) | rfl
def Q0 (n0 : Nat) (v : Option Value) (h : Heap) (L : List Loc) : Prop := v = some (.int (1 : Int32)) ∧ Fr n0 L
set_option maxRecDepth 65536 in
set_option maxHeartbeats 40000000 in
theorem rm0AT (l : Launch) (Z : State) (a0 : Array Value) (hw : ∀ d ∈ tables_1, d.before a0 Z = true) (ws : List Jvm.Cond) (p0 : Int64) (p1 : Int32) (p2 : Int64) (p3 : Int32) (y : UInt64) (sg : Int64) (xq : UInt64) (r : Int64) (m3 : Int64) (m2 : Int64) (m1 : Int64) (h0 : Heap) (n0 : Nat) (Z0 : n0 ≤ h0.size) (nn9 : Jvm.Free.Fl.NoNaN64 (FP.ddiv (FP.l2d p0) (FP.i2d ((p1 &&& (4194303 : Int32)) + (1 : Int32))))) (hq9 : (FP.ddiv (FP.l2d p0) (FP.i2d ((p1 &&& (4194303 : Int32)) + (1 : Int32)))) = xq) (nn4_14 : Jvm.Free.Fl.NoNaN64 (FP.dmul xq (4696837146684686336 : UInt64))) (hq4_14 : (FP.dmul xq (4696837146684686336 : UInt64)) = y) (hc31_5_14 : (lcmpW (((1074 : Int64) - (((y.toInt64) &&& (9218868437227405312 : Int64)) >>> ((52 : Int32) &&& 0x3f).toInt64)) &&& (-64 : Int64)) (0 : Int64)) = (0 : Int32)) (hj_sg_5_14 : (if (lcmpW (y.toInt64) (0 : Int64)) < (0 : Int32) then (-(((y.toInt64) &&& (4503599627370495 : Int64)) ||| (4503599627370496 : Int64))) else (((y.toInt64) &&& (4503599627370495 : Int64)) ||| (4503599627370496 : Int64))) = sg) (hv14 : (((sg >>> ((((1074 : Int64) - (((y.toInt64) &&& (9218868437227405312 : Int64)) >>> ((52 : Int32) &&& 0x3f).toInt64)).toInt32) &&& 0x3f).toInt64) + (1 : Int64)) >>> ((1 : Int32) &&& 0x3f).toInt64) = r) (hj_m3 : (if (lcmpW r (1125899906842624 : Int64)) < (0 : Int32) then (r + (((p3 >>> ((1 : Int32) &&& 31)) % (3 : Int32)).toInt64)) else (p2 % (2251799813685248 : Int64))) = m3) (hj_m2 : (if (0 : Int32) < (lcmpW r (-(1125899906842624 : Int64))) then m3 else (p2 % (2251799813685248 : Int64))) = m2) (hj_m1 : (if (p3 &&& (1 : Int32)) = (0 : Int32) then (p2 % (2251799813685248 : Int64)) else m2) = m1) (nn4_74 : Jvm.Free.Fl.NoNaN64 (FP.dmul xq (4696837146684686336 : UInt64))) (hq4_74 : (FP.dmul xq (4696837146684686336 : UInt64)) = y) (nn10_74 : Jvm.Free.Fl.NoNaN64 (FP.dsub (FP.l2d m1) (4602678819172646912 : UInt64))) (hc12_74 : (cmpValue (FP.dcmp y (FP.dsub (FP.l2d m1) (4602678819172646912 : UInt64))) .g) < (0 : Int32)) (hc82 : (lcmpW r m1) < (0 : Int32)) :
    MetFree l x (head1 (Jvm.Cond.code x code maxLocals ret :: ws) room_1) (fun a U => a = #[(.long p0), (.int p1), (.long p2), (.int p3)] ∧ Z.Warmed39 U.vm ∧ U.heap = h0) (fun _ _ _ _ _ => True) (fun _ U o U' => ∃ v L, o = .returned v ∧ Q0 n0 v U'.heap L ∧ FrameEnd U o U' L room_1.cells room_1.slots) := by
  refine MetFree.of_bodySF (plainFor_of_name pn_com_example_nelira_nelira_index_MillionthsRoundsBelowPinLaw) hisR ?_
  intro p e s m args below meth c s₁ Bd hml0 hP hK
  obtain ⟨rfl, hZ, hh⟩ := hP
  have hx := Bd.exec
  have hby := Bd.bytes
  have hml : c.maxLocals = 14 := hml0
  have hown : s.vm.findClass "com/example/nelira/nelira/index/MillionthsRoundsBelowPinLaw" = some m.cls := findClass_of_methodNamed Bd.named
  have hnm := (name_of_methodNamed Bd.named Bd.method).1
  have X0 : Stand p l e room_1 s m #[(.long p0), (.int p1), (.long p2), (.int p3)] below meth c s₁ [] 0 0 := Stand.of_body Bd
  have e0 : s₁.heap = h0 := by rw [← hh, Bd.state]; rfl
  have N0 := Fr.nil n0
  have pre0 : ∀ t, Steps p.tables e below (s₁.setTop (mkF m 0 #[.val (.long p0), .second, .val (.int p1), .val (.long p2), .second, .val (.int p3), .unset, .unset, .unset, .unset, .unset, .unset, .unset, .unset] [])) t → Steps p.tables e below (s₁.setTop (entryFrame m #[(.long p0), (.int p1), (.long p2), (.int p3)] maxLocals)) t := fun t k => castTop (ef_0_JIJI m p0 p1 p2 p3) k
  obtain ⟨_, _, ⟨T1, L1, k1, n1⟩, -, X1, ⟨Lc1, hQ1, l1, y1, z1⟩, st1⟩ := Jvm.LawKit.callS X0 hx (y := (⟨"com/example/nelira/nelira/index/Millionths", "round", "(D)J"⟩ : MethodName)) hown (mvT hZ (hw _ (List.mem_of_getElem? (i := 1) rfl))) (mvT hZ (hw _ (List.mem_of_getElem? (i := 2) rfl))) (mvT hZ (hw _ (List.mem_of_getElem? (i := 3) rfl))) (mvT hZ (hw _ (List.mem_of_getElem? (i := 4) rfl))) (by decide) (backOf (W := 0) (mrA l Z a0 hw [] xq sg y h0 n0 Z0 nn4_14 hq4_14 hc31_5_14 hj_sg_5_14) hZ (hw _ (List.mem_of_getElem? (i := 4) rfl)) (hw _ (List.mem_of_getElem? (i := 3) rfl)) (by decide) (by decide)) (g := (mkF m 14 #[.val (.long p0), .second, .val (.int p1), .val (.long p2), .second, .val (.int p3), .val (.double xq), .second, .unset, .unset, .unset, .unset, .unset, .unset] [(.double xq)])) rfl (by rw [hml]; rfl) (argsL := [(.double xq)]) (rest := []) (lenOf pd_0 rfl) rfl (by show 2 * 0 + _ ≤ _; exact Nat.le_of_eq rfl) (hb hby at_14) (fun _ _ => ⟨rfl, e0, (by decide : 0 + 0 ≤ _), (by decide : 0 + 0 ≤ _)⟩)
  dsimp only [Pt.U, Pt.locs, Pt.cells, Pt.slots] at X1 l1 y1 z1 st1 hQ1
  subst l1 y1 z1
  obtain ⟨rfl, N1q, eh1⟩ := hQ1
  have N1 := Fr.app N0 N1q
  have e1 : T1.heap = h0 := eh1
  have jn2 : ∀ target, Steps p.tables e below (T1.setTop (mkF m 70 #[.val (.long p0), .second, .val (.int p1), .val (.long p2), .second, .val (.int p3), .val (.double xq), .second, .val (.long r), .second, .val (.long (1125899906842624 : Int64)), .second, .val (.long m3), .second] [])) target → Steps p.tables e below (T1.setTop (mkF m 45 #[.val (.long p0), .second, .val (.int p1), .val (.long p2), .second, .val (.int p3), .val (.double xq), .second, .val (.long r), .second, .val (.long (1125899906842624 : Int64)), .second, .unset, .unset] [(.int (lcmpW r (1125899906842624 : Int64)))])) target := by
    intro target kt
    by_cases hq : (lcmpW r (1125899906842624 : Int64)) < (0 : Int32)
    · rw [if_pos hq] at hj_m3; subst hj_m3
      show Steps p.tables e below (T1.setTop (mkF m 45 #[.val (.long p0), .second, .val (.int p1), .val (.long p2), .second, .val (.int p3), .val (.double xq), .second, .val (.long r), .second, .val (.long (1125899906842624 : Int64)), .second, .unset, .unset] [(.int (lcmpW r (1125899906842624 : Int64)))])) _
      refine XS.ifNo X1.here hx rfl (hb hby at_45) rfl ((if0 _ _).trans (tlt hq).2.1) ?_
      show Steps p.tables e below (T1.setTop (mkF m 48 #[.val (.long p0), .second, .val (.int p1), .val (.long p2), .second, .val (.int p3), .val (.double xq), .second, .val (.long r), .second, .val (.long (1125899906842624 : Int64)), .second, .unset, .unset] [])) _
      refine XS.lload X1.here hx rfl (hb hby at_48) rfl ?_
      show Steps p.tables e below (T1.setTop (mkF m 50 #[.val (.long p0), .second, .val (.int p1), .val (.long p2), .second, .val (.int p3), .val (.double xq), .second, .val (.long r), .second, .val (.long (1125899906842624 : Int64)), .second, .unset, .unset] [(.long r)])) _
      refine XS.iload X1.here hx rfl (hb hby at_50) rfl ?_
      show Steps p.tables e below (T1.setTop (mkF m 52 #[.val (.long p0), .second, .val (.int p1), .val (.long p2), .second, .val (.int p3), .val (.double xq), .second, .val (.long r), .second, .val (.long (1125899906842624 : Int64)), .second, .unset, .unset] [(.int p3), (.long r)])) _
      refine XS.iconst X1.here hx rfl (hb hby at_52) ?_
      show Steps p.tables e below (T1.setTop (mkF m 53 #[.val (.long p0), .second, .val (.int p1), .val (.long p2), .second, .val (.int p3), .val (.double xq), .second, .val (.long r), .second, .val (.long (1125899906842624 : Int64)), .second, .unset, .unset] [(.int (1 : Int32)), (.int p3), (.long r)])) _
      refine XS.ishr X1.here hx rfl (hb hby at_53) rfl ?_
      show Steps p.tables e below (T1.setTop (mkF m 54 #[.val (.long p0), .second, .val (.int p1), .val (.long p2), .second, .val (.int p3), .val (.double xq), .second, .val (.long r), .second, .val (.long (1125899906842624 : Int64)), .second, .unset, .unset] [(.int (p3 >>> ((1 : Int32) &&& 31))), (.long r)])) _
      refine XS.iconst X1.here hx rfl (hb hby at_54) ?_
      show Steps p.tables e below (T1.setTop (mkF m 55 #[.val (.long p0), .second, .val (.int p1), .val (.long p2), .second, .val (.int p3), .val (.double xq), .second, .val (.long r), .second, .val (.long (1125899906842624 : Int64)), .second, .unset, .unset] [(.int (3 : Int32)), (.int (p3 >>> ((1 : Int32) &&& 31))), (.long r)])) _
      refine iremM (g := (mkF m 55 #[.val (.long p0), .second, .val (.int p1), .val (.long p2), .second, .val (.int p3), .val (.double xq), .second, .val (.long r), .second, .val (.long (1125899906842624 : Int64)), .second, .unset, .unset] [(.int (3 : Int32)), (.int (p3 >>> ((1 : Int32) &&& 31))), (.long r)])) X1 hx rfl (hb hby at_55) rfl (by decide) ?_
      show Steps p.tables e below (T1.setTop (mkF m 56 #[.val (.long p0), .second, .val (.int p1), .val (.long p2), .second, .val (.int p3), .val (.double xq), .second, .val (.long r), .second, .val (.long (1125899906842624 : Int64)), .second, .unset, .unset] [(.int ((p3 >>> ((1 : Int32) &&& 31)) % (3 : Int32))), (.long r)])) _
      refine XS.i2l X1.here hx rfl (hb hby at_56) rfl ?_
      show Steps p.tables e below (T1.setTop (mkF m 57 #[.val (.long p0), .second, .val (.int p1), .val (.long p2), .second, .val (.int p3), .val (.double xq), .second, .val (.long r), .second, .val (.long (1125899906842624 : Int64)), .second, .unset, .unset] [(.long (((p3 >>> ((1 : Int32) &&& 31)) % (3 : Int32)).toInt64)), (.long r)])) _
      refine XS.ladd X1.here hx rfl (hb hby at_57) rfl ?_
      show Steps p.tables e below (T1.setTop (mkF m 58 #[.val (.long p0), .second, .val (.int p1), .val (.long p2), .second, .val (.int p3), .val (.double xq), .second, .val (.long r), .second, .val (.long (1125899906842624 : Int64)), .second, .unset, .unset] [(.long (r + (((p3 >>> ((1 : Int32) &&& 31)) % (3 : Int32)).toInt64)))])) _
      refine XS.lstore X1.here hx rfl (hb hby at_58) rfl (l' := #[.val (.long p0), .second, .val (.int p1), .val (.long p2), .second, .val (.int p3), .val (.double xq), .second, .val (.long r), .second, .val (.long (1125899906842624 : Int64)), .second, .val (.long (r + (((p3 >>> ((1 : Int32) &&& 31)) % (3 : Int32)).toInt64))), .second]) rfl ?_
      show Steps p.tables e below (T1.setTop (mkF m 60 #[.val (.long p0), .second, .val (.int p1), .val (.long p2), .second, .val (.int p3), .val (.double xq), .second, .val (.long r), .second, .val (.long (1125899906842624 : Int64)), .second, .val (.long (r + (((p3 >>> ((1 : Int32) &&& 31)) % (3 : Int32)).toInt64))), .second] [])) _
      refine XS.goto X1.here hx rfl (pc0 := 60) (pc' := 70) rfl (hb hby at_60) (by decide) (by decide) ?_
      show Steps p.tables e below (T1.setTop (mkF m 70 #[.val (.long p0), .second, .val (.int p1), .val (.long p2), .second, .val (.int p3), .val (.double xq), .second, .val (.long r), .second, .val (.long (1125899906842624 : Int64)), .second, .val (.long (r + (((p3 >>> ((1 : Int32) &&& 31)) % (3 : Int32)).toInt64))), .second] [])) _
      exact kt
    · rw [if_neg hq] at hj_m3; subst hj_m3
      show Steps p.tables e below (T1.setTop (mkF m 45 #[.val (.long p0), .second, .val (.int p1), .val (.long p2), .second, .val (.int p3), .val (.double xq), .second, .val (.long r), .second, .val (.long (1125899906842624 : Int64)), .second, .unset, .unset] [(.int (lcmpW r (1125899906842624 : Int64)))])) _
      refine XS.ifYes X1.here hx rfl (pc0 := 45) (pc' := 63) rfl (hb hby at_45) rfl ((if0 _ _).trans (flt hq).2.1) (by decide) (by decide) ?_
      show Steps p.tables e below (T1.setTop (mkF m 63 #[.val (.long p0), .second, .val (.int p1), .val (.long p2), .second, .val (.int p3), .val (.double xq), .second, .val (.long r), .second, .val (.long (1125899906842624 : Int64)), .second, .unset, .unset] [])) _
      refine XS.lloadN X1.here hx rfl (hb hby at_63) rfl ?_
      show Steps p.tables e below (T1.setTop (mkF m 64 #[.val (.long p0), .second, .val (.int p1), .val (.long p2), .second, .val (.int p3), .val (.double xq), .second, .val (.long r), .second, .val (.long (1125899906842624 : Int64)), .second, .unset, .unset] [(.long p2)])) _
      refine X1.ldc2Long hx hown (mvT hZ (hw _ (List.mem_of_getElem? (i := 20) rfl))) (g := (mkF m 64 #[.val (.long p0), .second, .val (.int p1), .val (.long p2), .second, .val (.int p3), .val (.double xq), .second, .val (.long r), .second, .val (.long (1125899906842624 : Int64)), .second, .unset, .unset] [(.long p2)])) rfl (hb hby at_64) _ ?_
      show Steps p.tables e below (T1.setTop (mkF m 67 #[.val (.long p0), .second, .val (.int p1), .val (.long p2), .second, .val (.int p3), .val (.double xq), .second, .val (.long r), .second, .val (.long (1125899906842624 : Int64)), .second, .unset, .unset] [(.long (2251799813685248 : Int64)), (.long p2)])) _
      refine own_lremM (g := (mkF m 67 #[.val (.long p0), .second, .val (.int p1), .val (.long p2), .second, .val (.int p3), .val (.double xq), .second, .val (.long r), .second, .val (.long (1125899906842624 : Int64)), .second, .unset, .unset] [(.long (2251799813685248 : Int64)), (.long p2)])) X1 hx rfl (hb hby at_67) rfl (by decide) ?_
      show Steps p.tables e below (T1.setTop (mkF m 68 #[.val (.long p0), .second, .val (.int p1), .val (.long p2), .second, .val (.int p3), .val (.double xq), .second, .val (.long r), .second, .val (.long (1125899906842624 : Int64)), .second, .unset, .unset] [(.long (p2 % (2251799813685248 : Int64)))])) _
      refine XS.lstore X1.here hx rfl (hb hby at_68) rfl (l' := #[.val (.long p0), .second, .val (.int p1), .val (.long p2), .second, .val (.int p3), .val (.double xq), .second, .val (.long r), .second, .val (.long (1125899906842624 : Int64)), .second, .val (.long (p2 % (2251799813685248 : Int64))), .second]) rfl ?_
      show Steps p.tables e below (T1.setTop (mkF m 70 #[.val (.long p0), .second, .val (.int p1), .val (.long p2), .second, .val (.int p3), .val (.double xq), .second, .val (.long r), .second, .val (.long (1125899906842624 : Int64)), .second, .val (.long (p2 % (2251799813685248 : Int64))), .second] [])) _
      exact kt
  have jn3 : ∀ target, Steps p.tables e below (T1.setTop (mkF m 70 #[.val (.long p0), .second, .val (.int p1), .val (.long p2), .second, .val (.int p3), .val (.double xq), .second, .val (.long r), .second, .val (.long (1125899906842624 : Int64)), .second, .val (.long m2), .second] [])) target → Steps p.tables e below (T1.setTop (mkF m 37 #[.val (.long p0), .second, .val (.int p1), .val (.long p2), .second, .val (.int p3), .val (.double xq), .second, .val (.long r), .second, .val (.long (1125899906842624 : Int64)), .second, .unset, .unset] [(.int (lcmpW r (-(1125899906842624 : Int64))))])) target := by
    intro target kt
    by_cases hq : (0 : Int32) < (lcmpW r (-(1125899906842624 : Int64)))
    · rw [if_pos hq] at hj_m2; subst hj_m2
      show Steps p.tables e below (T1.setTop (mkF m 37 #[.val (.long p0), .second, .val (.int p1), .val (.long p2), .second, .val (.int p3), .val (.double xq), .second, .val (.long r), .second, .val (.long (1125899906842624 : Int64)), .second, .unset, .unset] [(.int (lcmpW r (-(1125899906842624 : Int64))))])) _
      refine XS.ifNo X1.here hx rfl (hb hby at_37) rfl ((if0 _ _).trans (tlt hq).2.2.2) ?_
      show Steps p.tables e below (T1.setTop (mkF m 40 #[.val (.long p0), .second, .val (.int p1), .val (.long p2), .second, .val (.int p3), .val (.double xq), .second, .val (.long r), .second, .val (.long (1125899906842624 : Int64)), .second, .unset, .unset] [])) _
      refine XS.lload X1.here hx rfl (hb hby at_40) rfl ?_
      show Steps p.tables e below (T1.setTop (mkF m 42 #[.val (.long p0), .second, .val (.int p1), .val (.long p2), .second, .val (.int p3), .val (.double xq), .second, .val (.long r), .second, .val (.long (1125899906842624 : Int64)), .second, .unset, .unset] [(.long r)])) _
      refine XS.lload X1.here hx rfl (hb hby at_42) rfl ?_
      show Steps p.tables e below (T1.setTop (mkF m 44 #[.val (.long p0), .second, .val (.int p1), .val (.long p2), .second, .val (.int p3), .val (.double xq), .second, .val (.long r), .second, .val (.long (1125899906842624 : Int64)), .second, .unset, .unset] [(.long (1125899906842624 : Int64)), (.long r)])) _
      refine XS.lcmp X1.here hx rfl (hb hby at_44) rfl ?_
      show Steps p.tables e below (T1.setTop (mkF m 45 #[.val (.long p0), .second, .val (.int p1), .val (.long p2), .second, .val (.int p3), .val (.double xq), .second, .val (.long r), .second, .val (.long (1125899906842624 : Int64)), .second, .unset, .unset] [(.int (lcmpW r (1125899906842624 : Int64)))])) _
      refine jn2 _ ?_
      show Steps p.tables e below (T1.setTop (mkF m 70 #[.val (.long p0), .second, .val (.int p1), .val (.long p2), .second, .val (.int p3), .val (.double xq), .second, .val (.long r), .second, .val (.long (1125899906842624 : Int64)), .second, .val (.long m3), .second] [])) _
      exact kt
    · rw [if_neg hq] at hj_m2; subst hj_m2
      show Steps p.tables e below (T1.setTop (mkF m 37 #[.val (.long p0), .second, .val (.int p1), .val (.long p2), .second, .val (.int p3), .val (.double xq), .second, .val (.long r), .second, .val (.long (1125899906842624 : Int64)), .second, .unset, .unset] [(.int (lcmpW r (-(1125899906842624 : Int64))))])) _
      refine XS.ifYes X1.here hx rfl (pc0 := 37) (pc' := 63) rfl (hb hby at_37) rfl ((if0 _ _).trans (flt hq).2.2.2) (by decide) (by decide) ?_
      show Steps p.tables e below (T1.setTop (mkF m 63 #[.val (.long p0), .second, .val (.int p1), .val (.long p2), .second, .val (.int p3), .val (.double xq), .second, .val (.long r), .second, .val (.long (1125899906842624 : Int64)), .second, .unset, .unset] [])) _
      refine XS.lloadN X1.here hx rfl (hb hby at_63) rfl ?_
      show Steps p.tables e below (T1.setTop (mkF m 64 #[.val (.long p0), .second, .val (.int p1), .val (.long p2), .second, .val (.int p3), .val (.double xq), .second, .val (.long r), .second, .val (.long (1125899906842624 : Int64)), .second, .unset, .unset] [(.long p2)])) _
      refine X1.ldc2Long hx hown (mvT hZ (hw _ (List.mem_of_getElem? (i := 20) rfl))) (g := (mkF m 64 #[.val (.long p0), .second, .val (.int p1), .val (.long p2), .second, .val (.int p3), .val (.double xq), .second, .val (.long r), .second, .val (.long (1125899906842624 : Int64)), .second, .unset, .unset] [(.long p2)])) rfl (hb hby at_64) _ ?_
      show Steps p.tables e below (T1.setTop (mkF m 67 #[.val (.long p0), .second, .val (.int p1), .val (.long p2), .second, .val (.int p3), .val (.double xq), .second, .val (.long r), .second, .val (.long (1125899906842624 : Int64)), .second, .unset, .unset] [(.long (2251799813685248 : Int64)), (.long p2)])) _
      refine own_lremM (g := (mkF m 67 #[.val (.long p0), .second, .val (.int p1), .val (.long p2), .second, .val (.int p3), .val (.double xq), .second, .val (.long r), .second, .val (.long (1125899906842624 : Int64)), .second, .unset, .unset] [(.long (2251799813685248 : Int64)), (.long p2)])) X1 hx rfl (hb hby at_67) rfl (by decide) ?_
      show Steps p.tables e below (T1.setTop (mkF m 68 #[.val (.long p0), .second, .val (.int p1), .val (.long p2), .second, .val (.int p3), .val (.double xq), .second, .val (.long r), .second, .val (.long (1125899906842624 : Int64)), .second, .unset, .unset] [(.long (p2 % (2251799813685248 : Int64)))])) _
      refine XS.lstore X1.here hx rfl (hb hby at_68) rfl (l' := #[.val (.long p0), .second, .val (.int p1), .val (.long p2), .second, .val (.int p3), .val (.double xq), .second, .val (.long r), .second, .val (.long (1125899906842624 : Int64)), .second, .val (.long (p2 % (2251799813685248 : Int64))), .second]) rfl ?_
      show Steps p.tables e below (T1.setTop (mkF m 70 #[.val (.long p0), .second, .val (.int p1), .val (.long p2), .second, .val (.int p3), .val (.double xq), .second, .val (.long r), .second, .val (.long (1125899906842624 : Int64)), .second, .val (.long (p2 % (2251799813685248 : Int64))), .second] [])) _
      exact kt
  have jn4 : ∀ target, Steps p.tables e below (T1.setTop (mkF m 70 #[.val (.long p0), .second, .val (.int p1), .val (.long p2), .second, .val (.int p3), .val (.double xq), .second, .val (.long r), .second, .val (.long (1125899906842624 : Int64)), .second, .val (.long m1), .second] [])) target → Steps p.tables e below (T1.setTop (mkF m 28 #[.val (.long p0), .second, .val (.int p1), .val (.long p2), .second, .val (.int p3), .val (.double xq), .second, .val (.long r), .second, .val (.long (1125899906842624 : Int64)), .second, .unset, .unset] [(.int (p3 &&& (1 : Int32)))])) target := by
    intro target kt
    by_cases hq : (p3 &&& (1 : Int32)) = (0 : Int32)
    · rw [if_pos hq] at hj_m1; subst hj_m1
      show Steps p.tables e below (T1.setTop (mkF m 28 #[.val (.long p0), .second, .val (.int p1), .val (.long p2), .second, .val (.int p3), .val (.double xq), .second, .val (.long r), .second, .val (.long (1125899906842624 : Int64)), .second, .unset, .unset] [(.int (p3 &&& (1 : Int32)))])) _
      refine XS.ifYes X1.here hx rfl (pc0 := 28) (pc' := 63) rfl (hb hby at_28) rfl ((if0 _ _).trans (teq hq).1) (by decide) (by decide) ?_
      show Steps p.tables e below (T1.setTop (mkF m 63 #[.val (.long p0), .second, .val (.int p1), .val (.long p2), .second, .val (.int p3), .val (.double xq), .second, .val (.long r), .second, .val (.long (1125899906842624 : Int64)), .second, .unset, .unset] [])) _
      refine XS.lloadN X1.here hx rfl (hb hby at_63) rfl ?_
      show Steps p.tables e below (T1.setTop (mkF m 64 #[.val (.long p0), .second, .val (.int p1), .val (.long p2), .second, .val (.int p3), .val (.double xq), .second, .val (.long r), .second, .val (.long (1125899906842624 : Int64)), .second, .unset, .unset] [(.long p2)])) _
      refine X1.ldc2Long hx hown (mvT hZ (hw _ (List.mem_of_getElem? (i := 20) rfl))) (g := (mkF m 64 #[.val (.long p0), .second, .val (.int p1), .val (.long p2), .second, .val (.int p3), .val (.double xq), .second, .val (.long r), .second, .val (.long (1125899906842624 : Int64)), .second, .unset, .unset] [(.long p2)])) rfl (hb hby at_64) _ ?_
      show Steps p.tables e below (T1.setTop (mkF m 67 #[.val (.long p0), .second, .val (.int p1), .val (.long p2), .second, .val (.int p3), .val (.double xq), .second, .val (.long r), .second, .val (.long (1125899906842624 : Int64)), .second, .unset, .unset] [(.long (2251799813685248 : Int64)), (.long p2)])) _
      refine own_lremM (g := (mkF m 67 #[.val (.long p0), .second, .val (.int p1), .val (.long p2), .second, .val (.int p3), .val (.double xq), .second, .val (.long r), .second, .val (.long (1125899906842624 : Int64)), .second, .unset, .unset] [(.long (2251799813685248 : Int64)), (.long p2)])) X1 hx rfl (hb hby at_67) rfl (by decide) ?_
      show Steps p.tables e below (T1.setTop (mkF m 68 #[.val (.long p0), .second, .val (.int p1), .val (.long p2), .second, .val (.int p3), .val (.double xq), .second, .val (.long r), .second, .val (.long (1125899906842624 : Int64)), .second, .unset, .unset] [(.long (p2 % (2251799813685248 : Int64)))])) _
      refine XS.lstore X1.here hx rfl (hb hby at_68) rfl (l' := #[.val (.long p0), .second, .val (.int p1), .val (.long p2), .second, .val (.int p3), .val (.double xq), .second, .val (.long r), .second, .val (.long (1125899906842624 : Int64)), .second, .val (.long (p2 % (2251799813685248 : Int64))), .second]) rfl ?_
      show Steps p.tables e below (T1.setTop (mkF m 70 #[.val (.long p0), .second, .val (.int p1), .val (.long p2), .second, .val (.int p3), .val (.double xq), .second, .val (.long r), .second, .val (.long (1125899906842624 : Int64)), .second, .val (.long (p2 % (2251799813685248 : Int64))), .second] [])) _
      exact kt
    · rw [if_neg hq] at hj_m1; subst hj_m1
      show Steps p.tables e below (T1.setTop (mkF m 28 #[.val (.long p0), .second, .val (.int p1), .val (.long p2), .second, .val (.int p3), .val (.double xq), .second, .val (.long r), .second, .val (.long (1125899906842624 : Int64)), .second, .unset, .unset] [(.int (p3 &&& (1 : Int32)))])) _
      refine XS.ifNo X1.here hx rfl (hb hby at_28) rfl ((if0 _ _).trans (feq hq).1) ?_
      show Steps p.tables e below (T1.setTop (mkF m 31 #[.val (.long p0), .second, .val (.int p1), .val (.long p2), .second, .val (.int p3), .val (.double xq), .second, .val (.long r), .second, .val (.long (1125899906842624 : Int64)), .second, .unset, .unset] [])) _
      refine XS.lload X1.here hx rfl (hb hby at_31) rfl ?_
      show Steps p.tables e below (T1.setTop (mkF m 33 #[.val (.long p0), .second, .val (.int p1), .val (.long p2), .second, .val (.int p3), .val (.double xq), .second, .val (.long r), .second, .val (.long (1125899906842624 : Int64)), .second, .unset, .unset] [(.long r)])) _
      refine XS.lload X1.here hx rfl (hb hby at_33) rfl ?_
      show Steps p.tables e below (T1.setTop (mkF m 35 #[.val (.long p0), .second, .val (.int p1), .val (.long p2), .second, .val (.int p3), .val (.double xq), .second, .val (.long r), .second, .val (.long (1125899906842624 : Int64)), .second, .unset, .unset] [(.long (1125899906842624 : Int64)), (.long r)])) _
      refine XS.lneg X1.here hx rfl (hb hby at_35) rfl ?_
      show Steps p.tables e below (T1.setTop (mkF m 36 #[.val (.long p0), .second, .val (.int p1), .val (.long p2), .second, .val (.int p3), .val (.double xq), .second, .val (.long r), .second, .val (.long (1125899906842624 : Int64)), .second, .unset, .unset] [(.long (-(1125899906842624 : Int64))), (.long r)])) _
      refine XS.lcmp X1.here hx rfl (hb hby at_36) rfl ?_
      show Steps p.tables e below (T1.setTop (mkF m 37 #[.val (.long p0), .second, .val (.int p1), .val (.long p2), .second, .val (.int p3), .val (.double xq), .second, .val (.long r), .second, .val (.long (1125899906842624 : Int64)), .second, .unset, .unset] [(.int (lcmpW r (-(1125899906842624 : Int64))))])) _
      refine jn3 _ ?_
      show Steps p.tables e below (T1.setTop (mkF m 70 #[.val (.long p0), .second, .val (.int p1), .val (.long p2), .second, .val (.int p3), .val (.double xq), .second, .val (.long r), .second, .val (.long (1125899906842624 : Int64)), .second, .val (.long m2), .second] [])) _
      exact kt
  obtain ⟨_, _, ⟨T5, L5, k5, n5⟩, -, X5, ⟨Lc5, hQ5, l5, y5, z5⟩, st5⟩ := Jvm.LawKit.callS X1 hx (y := (⟨"com/example/nelira/nelira/index/Millionths", "roundsBelow", "(DJ)Z"⟩ : MethodName)) hown (mvT hZ (hw _ (List.mem_of_getElem? (i := 21) rfl))) (mvT hZ (hw _ (List.mem_of_getElem? (i := 22) rfl))) (mvT hZ (hw _ (List.mem_of_getElem? (i := 3) rfl))) (mvT hZ (hw _ (List.mem_of_getElem? (i := 23) rfl))) (by decide) (backOf (W := 0) (rbT l Z a0 hw [] xq m1 y h0 n0 Z0 nn4_74 hq4_74 nn10_74 hc12_74) hZ (hw _ (List.mem_of_getElem? (i := 23) rfl)) (hw _ (List.mem_of_getElem? (i := 3) rfl)) (by decide) (by decide)) (g := (mkF m 74 #[.val (.long p0), .second, .val (.int p1), .val (.long p2), .second, .val (.int p3), .val (.double xq), .second, .val (.long r), .second, .val (.long (1125899906842624 : Int64)), .second, .val (.long m1), .second] [(.long m1), (.double xq)])) rfl (by rw [hml]; rfl) (argsL := [(.double xq), (.long m1)]) (rest := []) (lenOf pd_1 rfl) rfl (by show 2 * 0 + _ ≤ _; exact Nat.le_of_eq rfl) (hb hby at_74) (fun _ _ => ⟨rfl, e1, (by decide : 0 + 0 ≤ _), (by decide : 0 + 0 ≤ _)⟩)
  dsimp only [Pt.U, Pt.locs, Pt.cells, Pt.slots] at X5 l5 y5 z5 st5 hQ5
  subst l5 y5 z5
  obtain ⟨rfl, N5q, eh5⟩ := hQ5
  have N5 := Fr.app N1 N5q
  have e5 : T5.heap = h0 := eh5
  obtain ⟨fs, hr, hrun, hended, hW, hsame⟩ := X5.leave (v := some (.int (1 : Int32))) (fun h => by rw [Bd.returns] at h; cases h)
  refine ⟨_, _, pre0 _ ?_, hrun, hended, _, _, rfl, ?_, ⟨_, rfl⟩, hW, hsame.mono (by decide) (by decide)⟩
  · show Steps p.tables e below (s₁.setTop (mkF m 0 #[.val (.long p0), .second, .val (.int p1), .val (.long p2), .second, .val (.int p3), .unset, .unset, .unset, .unset, .unset, .unset, .unset, .unset] [])) _
    refine XS.lloadN X0.here hx rfl (hb hby at_0) rfl ?_
    show Steps p.tables e below (s₁.setTop (mkF m 1 #[.val (.long p0), .second, .val (.int p1), .val (.long p2), .second, .val (.int p3), .unset, .unset, .unset, .unset, .unset, .unset, .unset, .unset] [(.long p0)])) _
    refine XS.l2dS X0.here hx rfl (hb hby at_1) rfl (v := (FP.l2d p0)) rfl ?_
    show Steps p.tables e below (s₁.setTop (mkF m 2 #[.val (.long p0), .second, .val (.int p1), .val (.long p2), .second, .val (.int p3), .unset, .unset, .unset, .unset, .unset, .unset, .unset, .unset] [(.double (FP.l2d p0))])) _
    refine XS.iloadN X0.here hx rfl (hb hby at_2) rfl ?_
    show Steps p.tables e below (s₁.setTop (mkF m 3 #[.val (.long p0), .second, .val (.int p1), .val (.long p2), .second, .val (.int p3), .unset, .unset, .unset, .unset, .unset, .unset, .unset, .unset] [(.int p1), (.double (FP.l2d p0))])) _
    refine X0.ldcInt hx hown (mvT hZ (hw _ (List.mem_of_getElem? (i := 0) rfl))) (g := (mkF m 3 #[.val (.long p0), .second, .val (.int p1), .val (.long p2), .second, .val (.int p3), .unset, .unset, .unset, .unset, .unset, .unset, .unset, .unset] [(.int p1), (.double (FP.l2d p0))])) rfl (hb hby at_3) _ ?_
    show Steps p.tables e below (s₁.setTop (mkF m 5 #[.val (.long p0), .second, .val (.int p1), .val (.long p2), .second, .val (.int p3), .unset, .unset, .unset, .unset, .unset, .unset, .unset, .unset] [(.int (4194303 : Int32)), (.int p1), (.double (FP.l2d p0))])) _
    refine XS.iand X0.here hx rfl (hb hby at_5) rfl ?_
    show Steps p.tables e below (s₁.setTop (mkF m 6 #[.val (.long p0), .second, .val (.int p1), .val (.long p2), .second, .val (.int p3), .unset, .unset, .unset, .unset, .unset, .unset, .unset, .unset] [(.int (p1 &&& (4194303 : Int32))), (.double (FP.l2d p0))])) _
    refine XS.iconst X0.here hx rfl (hb hby at_6) ?_
    show Steps p.tables e below (s₁.setTop (mkF m 7 #[.val (.long p0), .second, .val (.int p1), .val (.long p2), .second, .val (.int p3), .unset, .unset, .unset, .unset, .unset, .unset, .unset, .unset] [(.int (1 : Int32)), (.int (p1 &&& (4194303 : Int32))), (.double (FP.l2d p0))])) _
    refine XS.iadd X0.here hx rfl (hb hby at_7) rfl ?_
    show Steps p.tables e below (s₁.setTop (mkF m 8 #[.val (.long p0), .second, .val (.int p1), .val (.long p2), .second, .val (.int p3), .unset, .unset, .unset, .unset, .unset, .unset, .unset, .unset] [(.int ((p1 &&& (4194303 : Int32)) + (1 : Int32))), (.double (FP.l2d p0))])) _
    refine XS.i2dS X0.here hx rfl (hb hby at_8) rfl (v := (FP.i2d ((p1 &&& (4194303 : Int32)) + (1 : Int32)))) rfl ?_
    show Steps p.tables e below (s₁.setTop (mkF m 9 #[.val (.long p0), .second, .val (.int p1), .val (.long p2), .second, .val (.int p3), .unset, .unset, .unset, .unset, .unset, .unset, .unset, .unset] [(.double (FP.i2d ((p1 &&& (4194303 : Int32)) + (1 : Int32)))), (.double (FP.l2d p0))])) _
    refine XS.ddivS X0.here hx rfl (hb hby at_9) rfl nn9 (v := xq) hq9 ?_
    show Steps p.tables e below (s₁.setTop (mkF m 10 #[.val (.long p0), .second, .val (.int p1), .val (.long p2), .second, .val (.int p3), .unset, .unset, .unset, .unset, .unset, .unset, .unset, .unset] [(.double xq)])) _
    refine XS.dstore X0.here hx rfl (hb hby at_10) rfl (l' := #[.val (.long p0), .second, .val (.int p1), .val (.long p2), .second, .val (.int p3), .val (.double xq), .second, .unset, .unset, .unset, .unset, .unset, .unset]) rfl ?_
    show Steps p.tables e below (s₁.setTop (mkF m 12 #[.val (.long p0), .second, .val (.int p1), .val (.long p2), .second, .val (.int p3), .val (.double xq), .second, .unset, .unset, .unset, .unset, .unset, .unset] [])) _
    refine XS.dload X0.here hx rfl (hb hby at_12) rfl ?_
    show Steps p.tables e below (s₁.setTop (mkF m 14 #[.val (.long p0), .second, .val (.int p1), .val (.long p2), .second, .val (.int p3), .val (.double xq), .second, .unset, .unset, .unset, .unset, .unset, .unset] [(.double xq)])) _
    refine st1 _ ?_
    show Steps p.tables e below (T1.setTop (mkF m 17 #[.val (.long p0), .second, .val (.int p1), .val (.long p2), .second, .val (.int p3), .val (.double xq), .second, .unset, .unset, .unset, .unset, .unset, .unset] [(.long (((sg >>> ((((1074 : Int64) - (((y.toInt64) &&& (9218868437227405312 : Int64)) >>> ((52 : Int32) &&& 0x3f).toInt64)).toInt32) &&& 0x3f).toInt64) + (1 : Int64)) >>> ((1 : Int32) &&& 0x3f).toInt64))])) _
    rw [hv14]
    show Steps p.tables e below (T1.setTop (mkF m 17 #[.val (.long p0), .second, .val (.int p1), .val (.long p2), .second, .val (.int p3), .val (.double xq), .second, .unset, .unset, .unset, .unset, .unset, .unset] [(.long r)])) _
    refine XS.lstore X1.here hx rfl (hb hby at_17) rfl (l' := #[.val (.long p0), .second, .val (.int p1), .val (.long p2), .second, .val (.int p3), .val (.double xq), .second, .val (.long r), .second, .unset, .unset, .unset, .unset]) rfl ?_
    show Steps p.tables e below (T1.setTop (mkF m 19 #[.val (.long p0), .second, .val (.int p1), .val (.long p2), .second, .val (.int p3), .val (.double xq), .second, .val (.long r), .second, .unset, .unset, .unset, .unset] [])) _
    refine X1.ldc2Long hx hown (mvT hZ (hw _ (List.mem_of_getElem? (i := 19) rfl))) (g := (mkF m 19 #[.val (.long p0), .second, .val (.int p1), .val (.long p2), .second, .val (.int p3), .val (.double xq), .second, .val (.long r), .second, .unset, .unset, .unset, .unset] [])) rfl (hb hby at_19) _ ?_
    show Steps p.tables e below (T1.setTop (mkF m 22 #[.val (.long p0), .second, .val (.int p1), .val (.long p2), .second, .val (.int p3), .val (.double xq), .second, .val (.long r), .second, .unset, .unset, .unset, .unset] [(.long (1125899906842624 : Int64))])) _
    refine XS.lstore X1.here hx rfl (hb hby at_22) rfl (l' := #[.val (.long p0), .second, .val (.int p1), .val (.long p2), .second, .val (.int p3), .val (.double xq), .second, .val (.long r), .second, .val (.long (1125899906842624 : Int64)), .second, .unset, .unset]) rfl ?_
    show Steps p.tables e below (T1.setTop (mkF m 24 #[.val (.long p0), .second, .val (.int p1), .val (.long p2), .second, .val (.int p3), .val (.double xq), .second, .val (.long r), .second, .val (.long (1125899906842624 : Int64)), .second, .unset, .unset] [])) _
    refine XS.iload X1.here hx rfl (hb hby at_24) rfl ?_
    show Steps p.tables e below (T1.setTop (mkF m 26 #[.val (.long p0), .second, .val (.int p1), .val (.long p2), .second, .val (.int p3), .val (.double xq), .second, .val (.long r), .second, .val (.long (1125899906842624 : Int64)), .second, .unset, .unset] [(.int p3)])) _
    refine XS.iconst X1.here hx rfl (hb hby at_26) ?_
    show Steps p.tables e below (T1.setTop (mkF m 27 #[.val (.long p0), .second, .val (.int p1), .val (.long p2), .second, .val (.int p3), .val (.double xq), .second, .val (.long r), .second, .val (.long (1125899906842624 : Int64)), .second, .unset, .unset] [(.int (1 : Int32)), (.int p3)])) _
    refine XS.iand X1.here hx rfl (hb hby at_27) rfl ?_
    show Steps p.tables e below (T1.setTop (mkF m 28 #[.val (.long p0), .second, .val (.int p1), .val (.long p2), .second, .val (.int p3), .val (.double xq), .second, .val (.long r), .second, .val (.long (1125899906842624 : Int64)), .second, .unset, .unset] [(.int (p3 &&& (1 : Int32)))])) _
    refine jn4 _ ?_
    show Steps p.tables e below (T1.setTop (mkF m 70 #[.val (.long p0), .second, .val (.int p1), .val (.long p2), .second, .val (.int p3), .val (.double xq), .second, .val (.long r), .second, .val (.long (1125899906842624 : Int64)), .second, .val (.long m1), .second] [])) _
    refine XS.dload X1.here hx rfl (hb hby at_70) rfl ?_
    show Steps p.tables e below (T1.setTop (mkF m 72 #[.val (.long p0), .second, .val (.int p1), .val (.long p2), .second, .val (.int p3), .val (.double xq), .second, .val (.long r), .second, .val (.long (1125899906842624 : Int64)), .second, .val (.long m1), .second] [(.double xq)])) _
    refine XS.lload X1.here hx rfl (hb hby at_72) rfl ?_
    show Steps p.tables e below (T1.setTop (mkF m 74 #[.val (.long p0), .second, .val (.int p1), .val (.long p2), .second, .val (.int p3), .val (.double xq), .second, .val (.long r), .second, .val (.long (1125899906842624 : Int64)), .second, .val (.long m1), .second] [(.long m1), (.double xq)])) _
    refine st5 _ ?_
    show Steps p.tables e below (T5.setTop (mkF m 77 #[.val (.long p0), .second, .val (.int p1), .val (.long p2), .second, .val (.int p3), .val (.double xq), .second, .val (.long r), .second, .val (.long (1125899906842624 : Int64)), .second, .val (.long m1), .second] [(.int (1 : Int32))])) _
    refine XS.lload X5.here hx rfl (hb hby at_77) rfl ?_
    show Steps p.tables e below (T5.setTop (mkF m 79 #[.val (.long p0), .second, .val (.int p1), .val (.long p2), .second, .val (.int p3), .val (.double xq), .second, .val (.long r), .second, .val (.long (1125899906842624 : Int64)), .second, .val (.long m1), .second] [(.long r), (.int (1 : Int32))])) _
    refine XS.lload X5.here hx rfl (hb hby at_79) rfl ?_
    show Steps p.tables e below (T5.setTop (mkF m 81 #[.val (.long p0), .second, .val (.int p1), .val (.long p2), .second, .val (.int p3), .val (.double xq), .second, .val (.long r), .second, .val (.long (1125899906842624 : Int64)), .second, .val (.long m1), .second] [(.long m1), (.long r), (.int (1 : Int32))])) _
    refine XS.lcmp X5.here hx rfl (hb hby at_81) rfl ?_
    show Steps p.tables e below (T5.setTop (mkF m 82 #[.val (.long p0), .second, .val (.int p1), .val (.long p2), .second, .val (.int p3), .val (.double xq), .second, .val (.long r), .second, .val (.long (1125899906842624 : Int64)), .second, .val (.long m1), .second] [(.int (lcmpW r m1)), (.int (1 : Int32))])) _
    refine XS.ifNo X5.here hx rfl (hb hby at_82) rfl ((if0 _ _).trans (tlt hc82).2.1) ?_
    show Steps p.tables e below (T5.setTop (mkF m 85 #[.val (.long p0), .second, .val (.int p1), .val (.long p2), .second, .val (.int p3), .val (.double xq), .second, .val (.long r), .second, .val (.long (1125899906842624 : Int64)), .second, .val (.long m1), .second] [(.int (1 : Int32))])) _
    refine XS.iconst X5.here hx rfl (hb hby at_85) ?_
    show Steps p.tables e below (T5.setTop (mkF m 86 #[.val (.long p0), .second, .val (.int p1), .val (.long p2), .second, .val (.int p3), .val (.double xq), .second, .val (.long r), .second, .val (.long (1125899906842624 : Int64)), .second, .val (.long m1), .second] [(.int (1 : Int32)), (.int (1 : Int32))])) _
    refine XS.goto X5.here hx rfl (pc0 := 86) (pc' := 90) rfl (hb hby at_86) (by decide) (by decide) ?_
    show Steps p.tables e below (T5.setTop (mkF m 90 #[.val (.long p0), .second, .val (.int p1), .val (.long p2), .second, .val (.int p3), .val (.double xq), .second, .val (.long r), .second, .val (.long (1125899906842624 : Int64)), .second, .val (.long m1), .second] [(.int (1 : Int32)), (.int (1 : Int32))])) _
    refine XS.icmpNo X5.here hx rfl (hb hby at_90) rfl (teq (by decide : (1 : Int32) = (1 : Int32))).2 ?_
    show Steps p.tables e below (T5.setTop (mkF m 93 #[.val (.long p0), .second, .val (.int p1), .val (.long p2), .second, .val (.int p3), .val (.double xq), .second, .val (.long r), .second, .val (.long (1125899906842624 : Int64)), .second, .val (.long m1), .second] [])) _
    refine XS.iconst X5.here hx rfl (hb hby at_93) ?_
    show Steps p.tables e below (T5.setTop (mkF m 94 #[.val (.long p0), .second, .val (.int p1), .val (.long p2), .second, .val (.int p3), .val (.double xq), .second, .val (.long r), .second, .val (.long (1125899906842624 : Int64)), .second, .val (.long m1), .second] [(.int (1 : Int32))])) _
    refine XS.goto X5.here hx rfl (pc0 := 94) (pc' := 98) rfl (hb hby at_94) (by decide) (by decide) ?_
    show Steps p.tables e below (T5.setTop (mkF m 98 #[.val (.long p0), .second, .val (.int p1), .val (.long p2), .second, .val (.int p3), .val (.double xq), .second, .val (.long r), .second, .val (.long (1125899906842624 : Int64)), .second, .val (.long m1), .second] [(.int (1 : Int32))])) _
    exact retN X5 hx (t := .boolean) Bd.returns (by simp) (hb hby at_98) hr
  · show Q0 n0 _ T5.heap _
    rw [e5]
    exact ⟨rfl, N5⟩
set_option maxRecDepth 65536 in
set_option maxHeartbeats 40000000 in
theorem rm0AF (l : Launch) (Z : State) (a0 : Array Value) (hw : ∀ d ∈ tables_1, d.before a0 Z = true) (ws : List Jvm.Cond) (p0 : Int64) (p1 : Int32) (p2 : Int64) (p3 : Int32) (y : UInt64) (sg : Int64) (xq : UInt64) (r : Int64) (m3 : Int64) (m2 : Int64) (m1 : Int64) (h0 : Heap) (n0 : Nat) (Z0 : n0 ≤ h0.size) (nn9 : Jvm.Free.Fl.NoNaN64 (FP.ddiv (FP.l2d p0) (FP.i2d ((p1 &&& (4194303 : Int32)) + (1 : Int32))))) (hq9 : (FP.ddiv (FP.l2d p0) (FP.i2d ((p1 &&& (4194303 : Int32)) + (1 : Int32)))) = xq) (nn4_14 : Jvm.Free.Fl.NoNaN64 (FP.dmul xq (4696837146684686336 : UInt64))) (hq4_14 : (FP.dmul xq (4696837146684686336 : UInt64)) = y) (hc31_5_14 : (lcmpW (((1074 : Int64) - (((y.toInt64) &&& (9218868437227405312 : Int64)) >>> ((52 : Int32) &&& 0x3f).toInt64)) &&& (-64 : Int64)) (0 : Int64)) = (0 : Int32)) (hj_sg_5_14 : (if (lcmpW (y.toInt64) (0 : Int64)) < (0 : Int32) then (-(((y.toInt64) &&& (4503599627370495 : Int64)) ||| (4503599627370496 : Int64))) else (((y.toInt64) &&& (4503599627370495 : Int64)) ||| (4503599627370496 : Int64))) = sg) (hv14 : (((sg >>> ((((1074 : Int64) - (((y.toInt64) &&& (9218868437227405312 : Int64)) >>> ((52 : Int32) &&& 0x3f).toInt64)).toInt32) &&& 0x3f).toInt64) + (1 : Int64)) >>> ((1 : Int32) &&& 0x3f).toInt64) = r) (hj_m3 : (if (lcmpW r (1125899906842624 : Int64)) < (0 : Int32) then (r + (((p3 >>> ((1 : Int32) &&& 31)) % (3 : Int32)).toInt64)) else (p2 % (2251799813685248 : Int64))) = m3) (hj_m2 : (if (0 : Int32) < (lcmpW r (-(1125899906842624 : Int64))) then m3 else (p2 % (2251799813685248 : Int64))) = m2) (hj_m1 : (if (p3 &&& (1 : Int32)) = (0 : Int32) then (p2 % (2251799813685248 : Int64)) else m2) = m1) (nn4_74 : Jvm.Free.Fl.NoNaN64 (FP.dmul xq (4696837146684686336 : UInt64))) (hq4_74 : (FP.dmul xq (4696837146684686336 : UInt64)) = y) (nn10_74 : Jvm.Free.Fl.NoNaN64 (FP.dsub (FP.l2d m1) (4602678819172646912 : UInt64))) (hc12_74 : ¬ ((cmpValue (FP.dcmp y (FP.dsub (FP.l2d m1) (4602678819172646912 : UInt64))) .g) < (0 : Int32))) (hc82 : ¬ ((lcmpW r m1) < (0 : Int32))) :
    MetFree l x (head1 (Jvm.Cond.code x code maxLocals ret :: ws) room_1) (fun a U => a = #[(.long p0), (.int p1), (.long p2), (.int p3)] ∧ Z.Warmed39 U.vm ∧ U.heap = h0) (fun _ _ _ _ _ => True) (fun _ U o U' => ∃ v L, o = .returned v ∧ Q0 n0 v U'.heap L ∧ FrameEnd U o U' L room_1.cells room_1.slots) := by
  refine MetFree.of_bodySF (plainFor_of_name pn_com_example_nelira_nelira_index_MillionthsRoundsBelowPinLaw) hisR ?_
  intro p e s m args below meth c s₁ Bd hml0 hP hK
  obtain ⟨rfl, hZ, hh⟩ := hP
  have hx := Bd.exec
  have hby := Bd.bytes
  have hml : c.maxLocals = 14 := hml0
  have hown : s.vm.findClass "com/example/nelira/nelira/index/MillionthsRoundsBelowPinLaw" = some m.cls := findClass_of_methodNamed Bd.named
  have hnm := (name_of_methodNamed Bd.named Bd.method).1
  have X0 : Stand p l e room_1 s m #[(.long p0), (.int p1), (.long p2), (.int p3)] below meth c s₁ [] 0 0 := Stand.of_body Bd
  have e0 : s₁.heap = h0 := by rw [← hh, Bd.state]; rfl
  have N0 := Fr.nil n0
  have pre0 : ∀ t, Steps p.tables e below (s₁.setTop (mkF m 0 #[.val (.long p0), .second, .val (.int p1), .val (.long p2), .second, .val (.int p3), .unset, .unset, .unset, .unset, .unset, .unset, .unset, .unset] [])) t → Steps p.tables e below (s₁.setTop (entryFrame m #[(.long p0), (.int p1), (.long p2), (.int p3)] maxLocals)) t := fun t k => castTop (ef_0_JIJI m p0 p1 p2 p3) k
  obtain ⟨_, _, ⟨T1, L1, k1, n1⟩, -, X1, ⟨Lc1, hQ1, l1, y1, z1⟩, st1⟩ := Jvm.LawKit.callS X0 hx (y := (⟨"com/example/nelira/nelira/index/Millionths", "round", "(D)J"⟩ : MethodName)) hown (mvT hZ (hw _ (List.mem_of_getElem? (i := 1) rfl))) (mvT hZ (hw _ (List.mem_of_getElem? (i := 2) rfl))) (mvT hZ (hw _ (List.mem_of_getElem? (i := 3) rfl))) (mvT hZ (hw _ (List.mem_of_getElem? (i := 4) rfl))) (by decide) (backOf (W := 0) (mrA l Z a0 hw [] xq sg y h0 n0 Z0 nn4_14 hq4_14 hc31_5_14 hj_sg_5_14) hZ (hw _ (List.mem_of_getElem? (i := 4) rfl)) (hw _ (List.mem_of_getElem? (i := 3) rfl)) (by decide) (by decide)) (g := (mkF m 14 #[.val (.long p0), .second, .val (.int p1), .val (.long p2), .second, .val (.int p3), .val (.double xq), .second, .unset, .unset, .unset, .unset, .unset, .unset] [(.double xq)])) rfl (by rw [hml]; rfl) (argsL := [(.double xq)]) (rest := []) (lenOf pd_0 rfl) rfl (by show 2 * 0 + _ ≤ _; exact Nat.le_of_eq rfl) (hb hby at_14) (fun _ _ => ⟨rfl, e0, (by decide : 0 + 0 ≤ _), (by decide : 0 + 0 ≤ _)⟩)
  dsimp only [Pt.U, Pt.locs, Pt.cells, Pt.slots] at X1 l1 y1 z1 st1 hQ1
  subst l1 y1 z1
  obtain ⟨rfl, N1q, eh1⟩ := hQ1
  have N1 := Fr.app N0 N1q
  have e1 : T1.heap = h0 := eh1
  have jn2 : ∀ target, Steps p.tables e below (T1.setTop (mkF m 70 #[.val (.long p0), .second, .val (.int p1), .val (.long p2), .second, .val (.int p3), .val (.double xq), .second, .val (.long r), .second, .val (.long (1125899906842624 : Int64)), .second, .val (.long m3), .second] [])) target → Steps p.tables e below (T1.setTop (mkF m 45 #[.val (.long p0), .second, .val (.int p1), .val (.long p2), .second, .val (.int p3), .val (.double xq), .second, .val (.long r), .second, .val (.long (1125899906842624 : Int64)), .second, .unset, .unset] [(.int (lcmpW r (1125899906842624 : Int64)))])) target := by
    intro target kt
    by_cases hq : (lcmpW r (1125899906842624 : Int64)) < (0 : Int32)
    · rw [if_pos hq] at hj_m3; subst hj_m3
      show Steps p.tables e below (T1.setTop (mkF m 45 #[.val (.long p0), .second, .val (.int p1), .val (.long p2), .second, .val (.int p3), .val (.double xq), .second, .val (.long r), .second, .val (.long (1125899906842624 : Int64)), .second, .unset, .unset] [(.int (lcmpW r (1125899906842624 : Int64)))])) _
      refine XS.ifNo X1.here hx rfl (hb hby at_45) rfl ((if0 _ _).trans (tlt hq).2.1) ?_
      show Steps p.tables e below (T1.setTop (mkF m 48 #[.val (.long p0), .second, .val (.int p1), .val (.long p2), .second, .val (.int p3), .val (.double xq), .second, .val (.long r), .second, .val (.long (1125899906842624 : Int64)), .second, .unset, .unset] [])) _
      refine XS.lload X1.here hx rfl (hb hby at_48) rfl ?_
      show Steps p.tables e below (T1.setTop (mkF m 50 #[.val (.long p0), .second, .val (.int p1), .val (.long p2), .second, .val (.int p3), .val (.double xq), .second, .val (.long r), .second, .val (.long (1125899906842624 : Int64)), .second, .unset, .unset] [(.long r)])) _
      refine XS.iload X1.here hx rfl (hb hby at_50) rfl ?_
      show Steps p.tables e below (T1.setTop (mkF m 52 #[.val (.long p0), .second, .val (.int p1), .val (.long p2), .second, .val (.int p3), .val (.double xq), .second, .val (.long r), .second, .val (.long (1125899906842624 : Int64)), .second, .unset, .unset] [(.int p3), (.long r)])) _
      refine XS.iconst X1.here hx rfl (hb hby at_52) ?_
      show Steps p.tables e below (T1.setTop (mkF m 53 #[.val (.long p0), .second, .val (.int p1), .val (.long p2), .second, .val (.int p3), .val (.double xq), .second, .val (.long r), .second, .val (.long (1125899906842624 : Int64)), .second, .unset, .unset] [(.int (1 : Int32)), (.int p3), (.long r)])) _
      refine XS.ishr X1.here hx rfl (hb hby at_53) rfl ?_
      show Steps p.tables e below (T1.setTop (mkF m 54 #[.val (.long p0), .second, .val (.int p1), .val (.long p2), .second, .val (.int p3), .val (.double xq), .second, .val (.long r), .second, .val (.long (1125899906842624 : Int64)), .second, .unset, .unset] [(.int (p3 >>> ((1 : Int32) &&& 31))), (.long r)])) _
      refine XS.iconst X1.here hx rfl (hb hby at_54) ?_
      show Steps p.tables e below (T1.setTop (mkF m 55 #[.val (.long p0), .second, .val (.int p1), .val (.long p2), .second, .val (.int p3), .val (.double xq), .second, .val (.long r), .second, .val (.long (1125899906842624 : Int64)), .second, .unset, .unset] [(.int (3 : Int32)), (.int (p3 >>> ((1 : Int32) &&& 31))), (.long r)])) _
      refine iremM (g := (mkF m 55 #[.val (.long p0), .second, .val (.int p1), .val (.long p2), .second, .val (.int p3), .val (.double xq), .second, .val (.long r), .second, .val (.long (1125899906842624 : Int64)), .second, .unset, .unset] [(.int (3 : Int32)), (.int (p3 >>> ((1 : Int32) &&& 31))), (.long r)])) X1 hx rfl (hb hby at_55) rfl (by decide) ?_
      show Steps p.tables e below (T1.setTop (mkF m 56 #[.val (.long p0), .second, .val (.int p1), .val (.long p2), .second, .val (.int p3), .val (.double xq), .second, .val (.long r), .second, .val (.long (1125899906842624 : Int64)), .second, .unset, .unset] [(.int ((p3 >>> ((1 : Int32) &&& 31)) % (3 : Int32))), (.long r)])) _
      refine XS.i2l X1.here hx rfl (hb hby at_56) rfl ?_
      show Steps p.tables e below (T1.setTop (mkF m 57 #[.val (.long p0), .second, .val (.int p1), .val (.long p2), .second, .val (.int p3), .val (.double xq), .second, .val (.long r), .second, .val (.long (1125899906842624 : Int64)), .second, .unset, .unset] [(.long (((p3 >>> ((1 : Int32) &&& 31)) % (3 : Int32)).toInt64)), (.long r)])) _
      refine XS.ladd X1.here hx rfl (hb hby at_57) rfl ?_
      show Steps p.tables e below (T1.setTop (mkF m 58 #[.val (.long p0), .second, .val (.int p1), .val (.long p2), .second, .val (.int p3), .val (.double xq), .second, .val (.long r), .second, .val (.long (1125899906842624 : Int64)), .second, .unset, .unset] [(.long (r + (((p3 >>> ((1 : Int32) &&& 31)) % (3 : Int32)).toInt64)))])) _
      refine XS.lstore X1.here hx rfl (hb hby at_58) rfl (l' := #[.val (.long p0), .second, .val (.int p1), .val (.long p2), .second, .val (.int p3), .val (.double xq), .second, .val (.long r), .second, .val (.long (1125899906842624 : Int64)), .second, .val (.long (r + (((p3 >>> ((1 : Int32) &&& 31)) % (3 : Int32)).toInt64))), .second]) rfl ?_
      show Steps p.tables e below (T1.setTop (mkF m 60 #[.val (.long p0), .second, .val (.int p1), .val (.long p2), .second, .val (.int p3), .val (.double xq), .second, .val (.long r), .second, .val (.long (1125899906842624 : Int64)), .second, .val (.long (r + (((p3 >>> ((1 : Int32) &&& 31)) % (3 : Int32)).toInt64))), .second] [])) _
      refine XS.goto X1.here hx rfl (pc0 := 60) (pc' := 70) rfl (hb hby at_60) (by decide) (by decide) ?_
      show Steps p.tables e below (T1.setTop (mkF m 70 #[.val (.long p0), .second, .val (.int p1), .val (.long p2), .second, .val (.int p3), .val (.double xq), .second, .val (.long r), .second, .val (.long (1125899906842624 : Int64)), .second, .val (.long (r + (((p3 >>> ((1 : Int32) &&& 31)) % (3 : Int32)).toInt64))), .second] [])) _
      exact kt
    · rw [if_neg hq] at hj_m3; subst hj_m3
      show Steps p.tables e below (T1.setTop (mkF m 45 #[.val (.long p0), .second, .val (.int p1), .val (.long p2), .second, .val (.int p3), .val (.double xq), .second, .val (.long r), .second, .val (.long (1125899906842624 : Int64)), .second, .unset, .unset] [(.int (lcmpW r (1125899906842624 : Int64)))])) _
      refine XS.ifYes X1.here hx rfl (pc0 := 45) (pc' := 63) rfl (hb hby at_45) rfl ((if0 _ _).trans (flt hq).2.1) (by decide) (by decide) ?_
      show Steps p.tables e below (T1.setTop (mkF m 63 #[.val (.long p0), .second, .val (.int p1), .val (.long p2), .second, .val (.int p3), .val (.double xq), .second, .val (.long r), .second, .val (.long (1125899906842624 : Int64)), .second, .unset, .unset] [])) _
      refine XS.lloadN X1.here hx rfl (hb hby at_63) rfl ?_
      show Steps p.tables e below (T1.setTop (mkF m 64 #[.val (.long p0), .second, .val (.int p1), .val (.long p2), .second, .val (.int p3), .val (.double xq), .second, .val (.long r), .second, .val (.long (1125899906842624 : Int64)), .second, .unset, .unset] [(.long p2)])) _
      refine X1.ldc2Long hx hown (mvT hZ (hw _ (List.mem_of_getElem? (i := 20) rfl))) (g := (mkF m 64 #[.val (.long p0), .second, .val (.int p1), .val (.long p2), .second, .val (.int p3), .val (.double xq), .second, .val (.long r), .second, .val (.long (1125899906842624 : Int64)), .second, .unset, .unset] [(.long p2)])) rfl (hb hby at_64) _ ?_
      show Steps p.tables e below (T1.setTop (mkF m 67 #[.val (.long p0), .second, .val (.int p1), .val (.long p2), .second, .val (.int p3), .val (.double xq), .second, .val (.long r), .second, .val (.long (1125899906842624 : Int64)), .second, .unset, .unset] [(.long (2251799813685248 : Int64)), (.long p2)])) _
      refine own_lremM (g := (mkF m 67 #[.val (.long p0), .second, .val (.int p1), .val (.long p2), .second, .val (.int p3), .val (.double xq), .second, .val (.long r), .second, .val (.long (1125899906842624 : Int64)), .second, .unset, .unset] [(.long (2251799813685248 : Int64)), (.long p2)])) X1 hx rfl (hb hby at_67) rfl (by decide) ?_
      show Steps p.tables e below (T1.setTop (mkF m 68 #[.val (.long p0), .second, .val (.int p1), .val (.long p2), .second, .val (.int p3), .val (.double xq), .second, .val (.long r), .second, .val (.long (1125899906842624 : Int64)), .second, .unset, .unset] [(.long (p2 % (2251799813685248 : Int64)))])) _
      refine XS.lstore X1.here hx rfl (hb hby at_68) rfl (l' := #[.val (.long p0), .second, .val (.int p1), .val (.long p2), .second, .val (.int p3), .val (.double xq), .second, .val (.long r), .second, .val (.long (1125899906842624 : Int64)), .second, .val (.long (p2 % (2251799813685248 : Int64))), .second]) rfl ?_
      show Steps p.tables e below (T1.setTop (mkF m 70 #[.val (.long p0), .second, .val (.int p1), .val (.long p2), .second, .val (.int p3), .val (.double xq), .second, .val (.long r), .second, .val (.long (1125899906842624 : Int64)), .second, .val (.long (p2 % (2251799813685248 : Int64))), .second] [])) _
      exact kt
  have jn3 : ∀ target, Steps p.tables e below (T1.setTop (mkF m 70 #[.val (.long p0), .second, .val (.int p1), .val (.long p2), .second, .val (.int p3), .val (.double xq), .second, .val (.long r), .second, .val (.long (1125899906842624 : Int64)), .second, .val (.long m2), .second] [])) target → Steps p.tables e below (T1.setTop (mkF m 37 #[.val (.long p0), .second, .val (.int p1), .val (.long p2), .second, .val (.int p3), .val (.double xq), .second, .val (.long r), .second, .val (.long (1125899906842624 : Int64)), .second, .unset, .unset] [(.int (lcmpW r (-(1125899906842624 : Int64))))])) target := by
    intro target kt
    by_cases hq : (0 : Int32) < (lcmpW r (-(1125899906842624 : Int64)))
    · rw [if_pos hq] at hj_m2; subst hj_m2
      show Steps p.tables e below (T1.setTop (mkF m 37 #[.val (.long p0), .second, .val (.int p1), .val (.long p2), .second, .val (.int p3), .val (.double xq), .second, .val (.long r), .second, .val (.long (1125899906842624 : Int64)), .second, .unset, .unset] [(.int (lcmpW r (-(1125899906842624 : Int64))))])) _
      refine XS.ifNo X1.here hx rfl (hb hby at_37) rfl ((if0 _ _).trans (tlt hq).2.2.2) ?_
      show Steps p.tables e below (T1.setTop (mkF m 40 #[.val (.long p0), .second, .val (.int p1), .val (.long p2), .second, .val (.int p3), .val (.double xq), .second, .val (.long r), .second, .val (.long (1125899906842624 : Int64)), .second, .unset, .unset] [])) _
      refine XS.lload X1.here hx rfl (hb hby at_40) rfl ?_
      show Steps p.tables e below (T1.setTop (mkF m 42 #[.val (.long p0), .second, .val (.int p1), .val (.long p2), .second, .val (.int p3), .val (.double xq), .second, .val (.long r), .second, .val (.long (1125899906842624 : Int64)), .second, .unset, .unset] [(.long r)])) _
      refine XS.lload X1.here hx rfl (hb hby at_42) rfl ?_
      show Steps p.tables e below (T1.setTop (mkF m 44 #[.val (.long p0), .second, .val (.int p1), .val (.long p2), .second, .val (.int p3), .val (.double xq), .second, .val (.long r), .second, .val (.long (1125899906842624 : Int64)), .second, .unset, .unset] [(.long (1125899906842624 : Int64)), (.long r)])) _
      refine XS.lcmp X1.here hx rfl (hb hby at_44) rfl ?_
      show Steps p.tables e below (T1.setTop (mkF m 45 #[.val (.long p0), .second, .val (.int p1), .val (.long p2), .second, .val (.int p3), .val (.double xq), .second, .val (.long r), .second, .val (.long (1125899906842624 : Int64)), .second, .unset, .unset] [(.int (lcmpW r (1125899906842624 : Int64)))])) _
      refine jn2 _ ?_
      show Steps p.tables e below (T1.setTop (mkF m 70 #[.val (.long p0), .second, .val (.int p1), .val (.long p2), .second, .val (.int p3), .val (.double xq), .second, .val (.long r), .second, .val (.long (1125899906842624 : Int64)), .second, .val (.long m3), .second] [])) _
      exact kt
    · rw [if_neg hq] at hj_m2; subst hj_m2
      show Steps p.tables e below (T1.setTop (mkF m 37 #[.val (.long p0), .second, .val (.int p1), .val (.long p2), .second, .val (.int p3), .val (.double xq), .second, .val (.long r), .second, .val (.long (1125899906842624 : Int64)), .second, .unset, .unset] [(.int (lcmpW r (-(1125899906842624 : Int64))))])) _
      refine XS.ifYes X1.here hx rfl (pc0 := 37) (pc' := 63) rfl (hb hby at_37) rfl ((if0 _ _).trans (flt hq).2.2.2) (by decide) (by decide) ?_
      show Steps p.tables e below (T1.setTop (mkF m 63 #[.val (.long p0), .second, .val (.int p1), .val (.long p2), .second, .val (.int p3), .val (.double xq), .second, .val (.long r), .second, .val (.long (1125899906842624 : Int64)), .second, .unset, .unset] [])) _
      refine XS.lloadN X1.here hx rfl (hb hby at_63) rfl ?_
      show Steps p.tables e below (T1.setTop (mkF m 64 #[.val (.long p0), .second, .val (.int p1), .val (.long p2), .second, .val (.int p3), .val (.double xq), .second, .val (.long r), .second, .val (.long (1125899906842624 : Int64)), .second, .unset, .unset] [(.long p2)])) _
      refine X1.ldc2Long hx hown (mvT hZ (hw _ (List.mem_of_getElem? (i := 20) rfl))) (g := (mkF m 64 #[.val (.long p0), .second, .val (.int p1), .val (.long p2), .second, .val (.int p3), .val (.double xq), .second, .val (.long r), .second, .val (.long (1125899906842624 : Int64)), .second, .unset, .unset] [(.long p2)])) rfl (hb hby at_64) _ ?_
      show Steps p.tables e below (T1.setTop (mkF m 67 #[.val (.long p0), .second, .val (.int p1), .val (.long p2), .second, .val (.int p3), .val (.double xq), .second, .val (.long r), .second, .val (.long (1125899906842624 : Int64)), .second, .unset, .unset] [(.long (2251799813685248 : Int64)), (.long p2)])) _
      refine own_lremM (g := (mkF m 67 #[.val (.long p0), .second, .val (.int p1), .val (.long p2), .second, .val (.int p3), .val (.double xq), .second, .val (.long r), .second, .val (.long (1125899906842624 : Int64)), .second, .unset, .unset] [(.long (2251799813685248 : Int64)), (.long p2)])) X1 hx rfl (hb hby at_67) rfl (by decide) ?_
      show Steps p.tables e below (T1.setTop (mkF m 68 #[.val (.long p0), .second, .val (.int p1), .val (.long p2), .second, .val (.int p3), .val (.double xq), .second, .val (.long r), .second, .val (.long (1125899906842624 : Int64)), .second, .unset, .unset] [(.long (p2 % (2251799813685248 : Int64)))])) _
      refine XS.lstore X1.here hx rfl (hb hby at_68) rfl (l' := #[.val (.long p0), .second, .val (.int p1), .val (.long p2), .second, .val (.int p3), .val (.double xq), .second, .val (.long r), .second, .val (.long (1125899906842624 : Int64)), .second, .val (.long (p2 % (2251799813685248 : Int64))), .second]) rfl ?_
      show Steps p.tables e below (T1.setTop (mkF m 70 #[.val (.long p0), .second, .val (.int p1), .val (.long p2), .second, .val (.int p3), .val (.double xq), .second, .val (.long r), .second, .val (.long (1125899906842624 : Int64)), .second, .val (.long (p2 % (2251799813685248 : Int64))), .second] [])) _
      exact kt
  have jn4 : ∀ target, Steps p.tables e below (T1.setTop (mkF m 70 #[.val (.long p0), .second, .val (.int p1), .val (.long p2), .second, .val (.int p3), .val (.double xq), .second, .val (.long r), .second, .val (.long (1125899906842624 : Int64)), .second, .val (.long m1), .second] [])) target → Steps p.tables e below (T1.setTop (mkF m 28 #[.val (.long p0), .second, .val (.int p1), .val (.long p2), .second, .val (.int p3), .val (.double xq), .second, .val (.long r), .second, .val (.long (1125899906842624 : Int64)), .second, .unset, .unset] [(.int (p3 &&& (1 : Int32)))])) target := by
    intro target kt
    by_cases hq : (p3 &&& (1 : Int32)) = (0 : Int32)
    · rw [if_pos hq] at hj_m1; subst hj_m1
      show Steps p.tables e below (T1.setTop (mkF m 28 #[.val (.long p0), .second, .val (.int p1), .val (.long p2), .second, .val (.int p3), .val (.double xq), .second, .val (.long r), .second, .val (.long (1125899906842624 : Int64)), .second, .unset, .unset] [(.int (p3 &&& (1 : Int32)))])) _
      refine XS.ifYes X1.here hx rfl (pc0 := 28) (pc' := 63) rfl (hb hby at_28) rfl ((if0 _ _).trans (teq hq).1) (by decide) (by decide) ?_
      show Steps p.tables e below (T1.setTop (mkF m 63 #[.val (.long p0), .second, .val (.int p1), .val (.long p2), .second, .val (.int p3), .val (.double xq), .second, .val (.long r), .second, .val (.long (1125899906842624 : Int64)), .second, .unset, .unset] [])) _
      refine XS.lloadN X1.here hx rfl (hb hby at_63) rfl ?_
      show Steps p.tables e below (T1.setTop (mkF m 64 #[.val (.long p0), .second, .val (.int p1), .val (.long p2), .second, .val (.int p3), .val (.double xq), .second, .val (.long r), .second, .val (.long (1125899906842624 : Int64)), .second, .unset, .unset] [(.long p2)])) _
      refine X1.ldc2Long hx hown (mvT hZ (hw _ (List.mem_of_getElem? (i := 20) rfl))) (g := (mkF m 64 #[.val (.long p0), .second, .val (.int p1), .val (.long p2), .second, .val (.int p3), .val (.double xq), .second, .val (.long r), .second, .val (.long (1125899906842624 : Int64)), .second, .unset, .unset] [(.long p2)])) rfl (hb hby at_64) _ ?_
      show Steps p.tables e below (T1.setTop (mkF m 67 #[.val (.long p0), .second, .val (.int p1), .val (.long p2), .second, .val (.int p3), .val (.double xq), .second, .val (.long r), .second, .val (.long (1125899906842624 : Int64)), .second, .unset, .unset] [(.long (2251799813685248 : Int64)), (.long p2)])) _
      refine own_lremM (g := (mkF m 67 #[.val (.long p0), .second, .val (.int p1), .val (.long p2), .second, .val (.int p3), .val (.double xq), .second, .val (.long r), .second, .val (.long (1125899906842624 : Int64)), .second, .unset, .unset] [(.long (2251799813685248 : Int64)), (.long p2)])) X1 hx rfl (hb hby at_67) rfl (by decide) ?_
      show Steps p.tables e below (T1.setTop (mkF m 68 #[.val (.long p0), .second, .val (.int p1), .val (.long p2), .second, .val (.int p3), .val (.double xq), .second, .val (.long r), .second, .val (.long (1125899906842624 : Int64)), .second, .unset, .unset] [(.long (p2 % (2251799813685248 : Int64)))])) _
      refine XS.lstore X1.here hx rfl (hb hby at_68) rfl (l' := #[.val (.long p0), .second, .val (.int p1), .val (.long p2), .second, .val (.int p3), .val (.double xq), .second, .val (.long r), .second, .val (.long (1125899906842624 : Int64)), .second, .val (.long (p2 % (2251799813685248 : Int64))), .second]) rfl ?_
      show Steps p.tables e below (T1.setTop (mkF m 70 #[.val (.long p0), .second, .val (.int p1), .val (.long p2), .second, .val (.int p3), .val (.double xq), .second, .val (.long r), .second, .val (.long (1125899906842624 : Int64)), .second, .val (.long (p2 % (2251799813685248 : Int64))), .second] [])) _
      exact kt
    · rw [if_neg hq] at hj_m1; subst hj_m1
      show Steps p.tables e below (T1.setTop (mkF m 28 #[.val (.long p0), .second, .val (.int p1), .val (.long p2), .second, .val (.int p3), .val (.double xq), .second, .val (.long r), .second, .val (.long (1125899906842624 : Int64)), .second, .unset, .unset] [(.int (p3 &&& (1 : Int32)))])) _
      refine XS.ifNo X1.here hx rfl (hb hby at_28) rfl ((if0 _ _).trans (feq hq).1) ?_
      show Steps p.tables e below (T1.setTop (mkF m 31 #[.val (.long p0), .second, .val (.int p1), .val (.long p2), .second, .val (.int p3), .val (.double xq), .second, .val (.long r), .second, .val (.long (1125899906842624 : Int64)), .second, .unset, .unset] [])) _
      refine XS.lload X1.here hx rfl (hb hby at_31) rfl ?_
      show Steps p.tables e below (T1.setTop (mkF m 33 #[.val (.long p0), .second, .val (.int p1), .val (.long p2), .second, .val (.int p3), .val (.double xq), .second, .val (.long r), .second, .val (.long (1125899906842624 : Int64)), .second, .unset, .unset] [(.long r)])) _
      refine XS.lload X1.here hx rfl (hb hby at_33) rfl ?_
      show Steps p.tables e below (T1.setTop (mkF m 35 #[.val (.long p0), .second, .val (.int p1), .val (.long p2), .second, .val (.int p3), .val (.double xq), .second, .val (.long r), .second, .val (.long (1125899906842624 : Int64)), .second, .unset, .unset] [(.long (1125899906842624 : Int64)), (.long r)])) _
      refine XS.lneg X1.here hx rfl (hb hby at_35) rfl ?_
      show Steps p.tables e below (T1.setTop (mkF m 36 #[.val (.long p0), .second, .val (.int p1), .val (.long p2), .second, .val (.int p3), .val (.double xq), .second, .val (.long r), .second, .val (.long (1125899906842624 : Int64)), .second, .unset, .unset] [(.long (-(1125899906842624 : Int64))), (.long r)])) _
      refine XS.lcmp X1.here hx rfl (hb hby at_36) rfl ?_
      show Steps p.tables e below (T1.setTop (mkF m 37 #[.val (.long p0), .second, .val (.int p1), .val (.long p2), .second, .val (.int p3), .val (.double xq), .second, .val (.long r), .second, .val (.long (1125899906842624 : Int64)), .second, .unset, .unset] [(.int (lcmpW r (-(1125899906842624 : Int64))))])) _
      refine jn3 _ ?_
      show Steps p.tables e below (T1.setTop (mkF m 70 #[.val (.long p0), .second, .val (.int p1), .val (.long p2), .second, .val (.int p3), .val (.double xq), .second, .val (.long r), .second, .val (.long (1125899906842624 : Int64)), .second, .val (.long m2), .second] [])) _
      exact kt
  obtain ⟨_, _, ⟨T5, L5, k5, n5⟩, -, X5, ⟨Lc5, hQ5, l5, y5, z5⟩, st5⟩ := Jvm.LawKit.callS X1 hx (y := (⟨"com/example/nelira/nelira/index/Millionths", "roundsBelow", "(DJ)Z"⟩ : MethodName)) hown (mvT hZ (hw _ (List.mem_of_getElem? (i := 21) rfl))) (mvT hZ (hw _ (List.mem_of_getElem? (i := 22) rfl))) (mvT hZ (hw _ (List.mem_of_getElem? (i := 3) rfl))) (mvT hZ (hw _ (List.mem_of_getElem? (i := 23) rfl))) (by decide) (backOf (W := 0) (rbF l Z a0 hw [] xq m1 y h0 n0 Z0 nn4_74 hq4_74 nn10_74 hc12_74) hZ (hw _ (List.mem_of_getElem? (i := 23) rfl)) (hw _ (List.mem_of_getElem? (i := 3) rfl)) (by decide) (by decide)) (g := (mkF m 74 #[.val (.long p0), .second, .val (.int p1), .val (.long p2), .second, .val (.int p3), .val (.double xq), .second, .val (.long r), .second, .val (.long (1125899906842624 : Int64)), .second, .val (.long m1), .second] [(.long m1), (.double xq)])) rfl (by rw [hml]; rfl) (argsL := [(.double xq), (.long m1)]) (rest := []) (lenOf pd_1 rfl) rfl (by show 2 * 0 + _ ≤ _; exact Nat.le_of_eq rfl) (hb hby at_74) (fun _ _ => ⟨rfl, e1, (by decide : 0 + 0 ≤ _), (by decide : 0 + 0 ≤ _)⟩)
  dsimp only [Pt.U, Pt.locs, Pt.cells, Pt.slots] at X5 l5 y5 z5 st5 hQ5
  subst l5 y5 z5
  obtain ⟨rfl, N5q, eh5⟩ := hQ5
  have N5 := Fr.app N1 N5q
  have e5 : T5.heap = h0 := eh5
  obtain ⟨fs, hr, hrun, hended, hW, hsame⟩ := X5.leave (v := some (.int (1 : Int32))) (fun h => by rw [Bd.returns] at h; cases h)
  refine ⟨_, _, pre0 _ ?_, hrun, hended, _, _, rfl, ?_, ⟨_, rfl⟩, hW, hsame.mono (by decide) (by decide)⟩
  · show Steps p.tables e below (s₁.setTop (mkF m 0 #[.val (.long p0), .second, .val (.int p1), .val (.long p2), .second, .val (.int p3), .unset, .unset, .unset, .unset, .unset, .unset, .unset, .unset] [])) _
    refine XS.lloadN X0.here hx rfl (hb hby at_0) rfl ?_
    show Steps p.tables e below (s₁.setTop (mkF m 1 #[.val (.long p0), .second, .val (.int p1), .val (.long p2), .second, .val (.int p3), .unset, .unset, .unset, .unset, .unset, .unset, .unset, .unset] [(.long p0)])) _
    refine XS.l2dS X0.here hx rfl (hb hby at_1) rfl (v := (FP.l2d p0)) rfl ?_
    show Steps p.tables e below (s₁.setTop (mkF m 2 #[.val (.long p0), .second, .val (.int p1), .val (.long p2), .second, .val (.int p3), .unset, .unset, .unset, .unset, .unset, .unset, .unset, .unset] [(.double (FP.l2d p0))])) _
    refine XS.iloadN X0.here hx rfl (hb hby at_2) rfl ?_
    show Steps p.tables e below (s₁.setTop (mkF m 3 #[.val (.long p0), .second, .val (.int p1), .val (.long p2), .second, .val (.int p3), .unset, .unset, .unset, .unset, .unset, .unset, .unset, .unset] [(.int p1), (.double (FP.l2d p0))])) _
    refine X0.ldcInt hx hown (mvT hZ (hw _ (List.mem_of_getElem? (i := 0) rfl))) (g := (mkF m 3 #[.val (.long p0), .second, .val (.int p1), .val (.long p2), .second, .val (.int p3), .unset, .unset, .unset, .unset, .unset, .unset, .unset, .unset] [(.int p1), (.double (FP.l2d p0))])) rfl (hb hby at_3) _ ?_
    show Steps p.tables e below (s₁.setTop (mkF m 5 #[.val (.long p0), .second, .val (.int p1), .val (.long p2), .second, .val (.int p3), .unset, .unset, .unset, .unset, .unset, .unset, .unset, .unset] [(.int (4194303 : Int32)), (.int p1), (.double (FP.l2d p0))])) _
    refine XS.iand X0.here hx rfl (hb hby at_5) rfl ?_
    show Steps p.tables e below (s₁.setTop (mkF m 6 #[.val (.long p0), .second, .val (.int p1), .val (.long p2), .second, .val (.int p3), .unset, .unset, .unset, .unset, .unset, .unset, .unset, .unset] [(.int (p1 &&& (4194303 : Int32))), (.double (FP.l2d p0))])) _
    refine XS.iconst X0.here hx rfl (hb hby at_6) ?_
    show Steps p.tables e below (s₁.setTop (mkF m 7 #[.val (.long p0), .second, .val (.int p1), .val (.long p2), .second, .val (.int p3), .unset, .unset, .unset, .unset, .unset, .unset, .unset, .unset] [(.int (1 : Int32)), (.int (p1 &&& (4194303 : Int32))), (.double (FP.l2d p0))])) _
    refine XS.iadd X0.here hx rfl (hb hby at_7) rfl ?_
    show Steps p.tables e below (s₁.setTop (mkF m 8 #[.val (.long p0), .second, .val (.int p1), .val (.long p2), .second, .val (.int p3), .unset, .unset, .unset, .unset, .unset, .unset, .unset, .unset] [(.int ((p1 &&& (4194303 : Int32)) + (1 : Int32))), (.double (FP.l2d p0))])) _
    refine XS.i2dS X0.here hx rfl (hb hby at_8) rfl (v := (FP.i2d ((p1 &&& (4194303 : Int32)) + (1 : Int32)))) rfl ?_
    show Steps p.tables e below (s₁.setTop (mkF m 9 #[.val (.long p0), .second, .val (.int p1), .val (.long p2), .second, .val (.int p3), .unset, .unset, .unset, .unset, .unset, .unset, .unset, .unset] [(.double (FP.i2d ((p1 &&& (4194303 : Int32)) + (1 : Int32)))), (.double (FP.l2d p0))])) _
    refine XS.ddivS X0.here hx rfl (hb hby at_9) rfl nn9 (v := xq) hq9 ?_
    show Steps p.tables e below (s₁.setTop (mkF m 10 #[.val (.long p0), .second, .val (.int p1), .val (.long p2), .second, .val (.int p3), .unset, .unset, .unset, .unset, .unset, .unset, .unset, .unset] [(.double xq)])) _
    refine XS.dstore X0.here hx rfl (hb hby at_10) rfl (l' := #[.val (.long p0), .second, .val (.int p1), .val (.long p2), .second, .val (.int p3), .val (.double xq), .second, .unset, .unset, .unset, .unset, .unset, .unset]) rfl ?_
    show Steps p.tables e below (s₁.setTop (mkF m 12 #[.val (.long p0), .second, .val (.int p1), .val (.long p2), .second, .val (.int p3), .val (.double xq), .second, .unset, .unset, .unset, .unset, .unset, .unset] [])) _
    refine XS.dload X0.here hx rfl (hb hby at_12) rfl ?_
    show Steps p.tables e below (s₁.setTop (mkF m 14 #[.val (.long p0), .second, .val (.int p1), .val (.long p2), .second, .val (.int p3), .val (.double xq), .second, .unset, .unset, .unset, .unset, .unset, .unset] [(.double xq)])) _
    refine st1 _ ?_
    show Steps p.tables e below (T1.setTop (mkF m 17 #[.val (.long p0), .second, .val (.int p1), .val (.long p2), .second, .val (.int p3), .val (.double xq), .second, .unset, .unset, .unset, .unset, .unset, .unset] [(.long (((sg >>> ((((1074 : Int64) - (((y.toInt64) &&& (9218868437227405312 : Int64)) >>> ((52 : Int32) &&& 0x3f).toInt64)).toInt32) &&& 0x3f).toInt64) + (1 : Int64)) >>> ((1 : Int32) &&& 0x3f).toInt64))])) _
    rw [hv14]
    show Steps p.tables e below (T1.setTop (mkF m 17 #[.val (.long p0), .second, .val (.int p1), .val (.long p2), .second, .val (.int p3), .val (.double xq), .second, .unset, .unset, .unset, .unset, .unset, .unset] [(.long r)])) _
    refine XS.lstore X1.here hx rfl (hb hby at_17) rfl (l' := #[.val (.long p0), .second, .val (.int p1), .val (.long p2), .second, .val (.int p3), .val (.double xq), .second, .val (.long r), .second, .unset, .unset, .unset, .unset]) rfl ?_
    show Steps p.tables e below (T1.setTop (mkF m 19 #[.val (.long p0), .second, .val (.int p1), .val (.long p2), .second, .val (.int p3), .val (.double xq), .second, .val (.long r), .second, .unset, .unset, .unset, .unset] [])) _
    refine X1.ldc2Long hx hown (mvT hZ (hw _ (List.mem_of_getElem? (i := 19) rfl))) (g := (mkF m 19 #[.val (.long p0), .second, .val (.int p1), .val (.long p2), .second, .val (.int p3), .val (.double xq), .second, .val (.long r), .second, .unset, .unset, .unset, .unset] [])) rfl (hb hby at_19) _ ?_
    show Steps p.tables e below (T1.setTop (mkF m 22 #[.val (.long p0), .second, .val (.int p1), .val (.long p2), .second, .val (.int p3), .val (.double xq), .second, .val (.long r), .second, .unset, .unset, .unset, .unset] [(.long (1125899906842624 : Int64))])) _
    refine XS.lstore X1.here hx rfl (hb hby at_22) rfl (l' := #[.val (.long p0), .second, .val (.int p1), .val (.long p2), .second, .val (.int p3), .val (.double xq), .second, .val (.long r), .second, .val (.long (1125899906842624 : Int64)), .second, .unset, .unset]) rfl ?_
    show Steps p.tables e below (T1.setTop (mkF m 24 #[.val (.long p0), .second, .val (.int p1), .val (.long p2), .second, .val (.int p3), .val (.double xq), .second, .val (.long r), .second, .val (.long (1125899906842624 : Int64)), .second, .unset, .unset] [])) _
    refine XS.iload X1.here hx rfl (hb hby at_24) rfl ?_
    show Steps p.tables e below (T1.setTop (mkF m 26 #[.val (.long p0), .second, .val (.int p1), .val (.long p2), .second, .val (.int p3), .val (.double xq), .second, .val (.long r), .second, .val (.long (1125899906842624 : Int64)), .second, .unset, .unset] [(.int p3)])) _
    refine XS.iconst X1.here hx rfl (hb hby at_26) ?_
    show Steps p.tables e below (T1.setTop (mkF m 27 #[.val (.long p0), .second, .val (.int p1), .val (.long p2), .second, .val (.int p3), .val (.double xq), .second, .val (.long r), .second, .val (.long (1125899906842624 : Int64)), .second, .unset, .unset] [(.int (1 : Int32)), (.int p3)])) _
    refine XS.iand X1.here hx rfl (hb hby at_27) rfl ?_
    show Steps p.tables e below (T1.setTop (mkF m 28 #[.val (.long p0), .second, .val (.int p1), .val (.long p2), .second, .val (.int p3), .val (.double xq), .second, .val (.long r), .second, .val (.long (1125899906842624 : Int64)), .second, .unset, .unset] [(.int (p3 &&& (1 : Int32)))])) _
    refine jn4 _ ?_
    show Steps p.tables e below (T1.setTop (mkF m 70 #[.val (.long p0), .second, .val (.int p1), .val (.long p2), .second, .val (.int p3), .val (.double xq), .second, .val (.long r), .second, .val (.long (1125899906842624 : Int64)), .second, .val (.long m1), .second] [])) _
    refine XS.dload X1.here hx rfl (hb hby at_70) rfl ?_
    show Steps p.tables e below (T1.setTop (mkF m 72 #[.val (.long p0), .second, .val (.int p1), .val (.long p2), .second, .val (.int p3), .val (.double xq), .second, .val (.long r), .second, .val (.long (1125899906842624 : Int64)), .second, .val (.long m1), .second] [(.double xq)])) _
    refine XS.lload X1.here hx rfl (hb hby at_72) rfl ?_
    show Steps p.tables e below (T1.setTop (mkF m 74 #[.val (.long p0), .second, .val (.int p1), .val (.long p2), .second, .val (.int p3), .val (.double xq), .second, .val (.long r), .second, .val (.long (1125899906842624 : Int64)), .second, .val (.long m1), .second] [(.long m1), (.double xq)])) _
    refine st5 _ ?_
    show Steps p.tables e below (T5.setTop (mkF m 77 #[.val (.long p0), .second, .val (.int p1), .val (.long p2), .second, .val (.int p3), .val (.double xq), .second, .val (.long r), .second, .val (.long (1125899906842624 : Int64)), .second, .val (.long m1), .second] [(.int (0 : Int32))])) _
    refine XS.lload X5.here hx rfl (hb hby at_77) rfl ?_
    show Steps p.tables e below (T5.setTop (mkF m 79 #[.val (.long p0), .second, .val (.int p1), .val (.long p2), .second, .val (.int p3), .val (.double xq), .second, .val (.long r), .second, .val (.long (1125899906842624 : Int64)), .second, .val (.long m1), .second] [(.long r), (.int (0 : Int32))])) _
    refine XS.lload X5.here hx rfl (hb hby at_79) rfl ?_
    show Steps p.tables e below (T5.setTop (mkF m 81 #[.val (.long p0), .second, .val (.int p1), .val (.long p2), .second, .val (.int p3), .val (.double xq), .second, .val (.long r), .second, .val (.long (1125899906842624 : Int64)), .second, .val (.long m1), .second] [(.long m1), (.long r), (.int (0 : Int32))])) _
    refine XS.lcmp X5.here hx rfl (hb hby at_81) rfl ?_
    show Steps p.tables e below (T5.setTop (mkF m 82 #[.val (.long p0), .second, .val (.int p1), .val (.long p2), .second, .val (.int p3), .val (.double xq), .second, .val (.long r), .second, .val (.long (1125899906842624 : Int64)), .second, .val (.long m1), .second] [(.int (lcmpW r m1)), (.int (0 : Int32))])) _
    refine XS.ifYes X5.here hx rfl (pc0 := 82) (pc' := 89) rfl (hb hby at_82) rfl ((if0 _ _).trans (flt hc82).2.1) (by decide) (by decide) ?_
    show Steps p.tables e below (T5.setTop (mkF m 89 #[.val (.long p0), .second, .val (.int p1), .val (.long p2), .second, .val (.int p3), .val (.double xq), .second, .val (.long r), .second, .val (.long (1125899906842624 : Int64)), .second, .val (.long m1), .second] [(.int (0 : Int32))])) _
    refine XS.iconst X5.here hx rfl (hb hby at_89) ?_
    show Steps p.tables e below (T5.setTop (mkF m 90 #[.val (.long p0), .second, .val (.int p1), .val (.long p2), .second, .val (.int p3), .val (.double xq), .second, .val (.long r), .second, .val (.long (1125899906842624 : Int64)), .second, .val (.long m1), .second] [(.int (0 : Int32)), (.int (0 : Int32))])) _
    refine XS.icmpNo X5.here hx rfl (hb hby at_90) rfl (teq (by decide : (0 : Int32) = (0 : Int32))).2 ?_
    show Steps p.tables e below (T5.setTop (mkF m 93 #[.val (.long p0), .second, .val (.int p1), .val (.long p2), .second, .val (.int p3), .val (.double xq), .second, .val (.long r), .second, .val (.long (1125899906842624 : Int64)), .second, .val (.long m1), .second] [])) _
    refine XS.iconst X5.here hx rfl (hb hby at_93) ?_
    show Steps p.tables e below (T5.setTop (mkF m 94 #[.val (.long p0), .second, .val (.int p1), .val (.long p2), .second, .val (.int p3), .val (.double xq), .second, .val (.long r), .second, .val (.long (1125899906842624 : Int64)), .second, .val (.long m1), .second] [(.int (1 : Int32))])) _
    refine XS.goto X5.here hx rfl (pc0 := 94) (pc' := 98) rfl (hb hby at_94) (by decide) (by decide) ?_
    show Steps p.tables e below (T5.setTop (mkF m 98 #[.val (.long p0), .second, .val (.int p1), .val (.long p2), .second, .val (.int p3), .val (.double xq), .second, .val (.long r), .second, .val (.long (1125899906842624 : Int64)), .second, .val (.long m1), .second] [(.int (1 : Int32))])) _
    exact retN X5 hx (t := .boolean) Bd.returns (by simp) (hb hby at_98) hr
  · show Q0 n0 _ T5.heap _
    rw [e5]
    exact ⟨rfl, N5⟩
set_option maxRecDepth 65536 in
set_option maxHeartbeats 40000000 in
theorem rm0BT (l : Launch) (Z : State) (a0 : Array Value) (hw : ∀ d ∈ tables_1, d.before a0 Z = true) (ws : List Jvm.Cond) (p0 : Int64) (p1 : Int32) (p2 : Int64) (p3 : Int32) (y : UInt64) (xq : UInt64) (r : Int64) (m3 : Int64) (m2 : Int64) (m1 : Int64) (h0 : Heap) (n0 : Nat) (Z0 : n0 ≤ h0.size) (nn9 : Jvm.Free.Fl.NoNaN64 (FP.ddiv (FP.l2d p0) (FP.i2d ((p1 &&& (4194303 : Int32)) + (1 : Int32))))) (hq9 : (FP.ddiv (FP.l2d p0) (FP.i2d ((p1 &&& (4194303 : Int32)) + (1 : Int32)))) = xq) (nn4_14 : Jvm.Free.Fl.NoNaN64 (FP.dmul xq (4696837146684686336 : UInt64))) (hq4_14 : (FP.dmul xq (4696837146684686336 : UInt64)) = y) (hc31_5_14 : ¬ ((lcmpW (((1074 : Int64) - (((y.toInt64) &&& (9218868437227405312 : Int64)) >>> ((52 : Int32) &&& 0x3f).toInt64)) &&& (-64 : Int64)) (0 : Int64)) = (0 : Int32))) (hv14 : (FP.d2l y) = r) (hj_m3 : (if (lcmpW r (1125899906842624 : Int64)) < (0 : Int32) then (r + (((p3 >>> ((1 : Int32) &&& 31)) % (3 : Int32)).toInt64)) else (p2 % (2251799813685248 : Int64))) = m3) (hj_m2 : (if (0 : Int32) < (lcmpW r (-(1125899906842624 : Int64))) then m3 else (p2 % (2251799813685248 : Int64))) = m2) (hj_m1 : (if (p3 &&& (1 : Int32)) = (0 : Int32) then (p2 % (2251799813685248 : Int64)) else m2) = m1) (nn4_74 : Jvm.Free.Fl.NoNaN64 (FP.dmul xq (4696837146684686336 : UInt64))) (hq4_74 : (FP.dmul xq (4696837146684686336 : UInt64)) = y) (nn10_74 : Jvm.Free.Fl.NoNaN64 (FP.dsub (FP.l2d m1) (4602678819172646912 : UInt64))) (hc12_74 : (cmpValue (FP.dcmp y (FP.dsub (FP.l2d m1) (4602678819172646912 : UInt64))) .g) < (0 : Int32)) (hc82 : (lcmpW r m1) < (0 : Int32)) :
    MetFree l x (head1 (Jvm.Cond.code x code maxLocals ret :: ws) room_1) (fun a U => a = #[(.long p0), (.int p1), (.long p2), (.int p3)] ∧ Z.Warmed39 U.vm ∧ U.heap = h0) (fun _ _ _ _ _ => True) (fun _ U o U' => ∃ v L, o = .returned v ∧ Q0 n0 v U'.heap L ∧ FrameEnd U o U' L room_1.cells room_1.slots) := by
  refine MetFree.of_bodySF (plainFor_of_name pn_com_example_nelira_nelira_index_MillionthsRoundsBelowPinLaw) hisR ?_
  intro p e s m args below meth c s₁ Bd hml0 hP hK
  obtain ⟨rfl, hZ, hh⟩ := hP
  have hx := Bd.exec
  have hby := Bd.bytes
  have hml : c.maxLocals = 14 := hml0
  have hown : s.vm.findClass "com/example/nelira/nelira/index/MillionthsRoundsBelowPinLaw" = some m.cls := findClass_of_methodNamed Bd.named
  have hnm := (name_of_methodNamed Bd.named Bd.method).1
  have X0 : Stand p l e room_1 s m #[(.long p0), (.int p1), (.long p2), (.int p3)] below meth c s₁ [] 0 0 := Stand.of_body Bd
  have e0 : s₁.heap = h0 := by rw [← hh, Bd.state]; rfl
  have N0 := Fr.nil n0
  have pre0 : ∀ t, Steps p.tables e below (s₁.setTop (mkF m 0 #[.val (.long p0), .second, .val (.int p1), .val (.long p2), .second, .val (.int p3), .unset, .unset, .unset, .unset, .unset, .unset, .unset, .unset] [])) t → Steps p.tables e below (s₁.setTop (entryFrame m #[(.long p0), (.int p1), (.long p2), (.int p3)] maxLocals)) t := fun t k => castTop (ef_0_JIJI m p0 p1 p2 p3) k
  obtain ⟨_, _, ⟨T1, L1, k1, n1⟩, -, X1, ⟨Lc1, hQ1, l1, y1, z1⟩, st1⟩ := Jvm.LawKit.callS X0 hx (y := (⟨"com/example/nelira/nelira/index/Millionths", "round", "(D)J"⟩ : MethodName)) hown (mvT hZ (hw _ (List.mem_of_getElem? (i := 1) rfl))) (mvT hZ (hw _ (List.mem_of_getElem? (i := 2) rfl))) (mvT hZ (hw _ (List.mem_of_getElem? (i := 3) rfl))) (mvT hZ (hw _ (List.mem_of_getElem? (i := 4) rfl))) (by decide) (backOf (W := 0) (mrB l Z a0 hw [] xq y h0 n0 Z0 nn4_14 hq4_14 hc31_5_14) hZ (hw _ (List.mem_of_getElem? (i := 4) rfl)) (hw _ (List.mem_of_getElem? (i := 3) rfl)) (by decide) (by decide)) (g := (mkF m 14 #[.val (.long p0), .second, .val (.int p1), .val (.long p2), .second, .val (.int p3), .val (.double xq), .second, .unset, .unset, .unset, .unset, .unset, .unset] [(.double xq)])) rfl (by rw [hml]; rfl) (argsL := [(.double xq)]) (rest := []) (lenOf pd_0 rfl) rfl (by show 2 * 0 + _ ≤ _; exact Nat.le_of_eq rfl) (hb hby at_14) (fun _ _ => ⟨rfl, e0, (by decide : 0 + 0 ≤ _), (by decide : 0 + 0 ≤ _)⟩)
  dsimp only [Pt.U, Pt.locs, Pt.cells, Pt.slots] at X1 l1 y1 z1 st1 hQ1
  subst l1 y1 z1
  obtain ⟨rfl, N1q, eh1⟩ := hQ1
  have N1 := Fr.app N0 N1q
  have e1 : T1.heap = h0 := eh1
  have jn2 : ∀ target, Steps p.tables e below (T1.setTop (mkF m 70 #[.val (.long p0), .second, .val (.int p1), .val (.long p2), .second, .val (.int p3), .val (.double xq), .second, .val (.long r), .second, .val (.long (1125899906842624 : Int64)), .second, .val (.long m3), .second] [])) target → Steps p.tables e below (T1.setTop (mkF m 45 #[.val (.long p0), .second, .val (.int p1), .val (.long p2), .second, .val (.int p3), .val (.double xq), .second, .val (.long r), .second, .val (.long (1125899906842624 : Int64)), .second, .unset, .unset] [(.int (lcmpW r (1125899906842624 : Int64)))])) target := by
    intro target kt
    by_cases hq : (lcmpW r (1125899906842624 : Int64)) < (0 : Int32)
    · rw [if_pos hq] at hj_m3; subst hj_m3
      show Steps p.tables e below (T1.setTop (mkF m 45 #[.val (.long p0), .second, .val (.int p1), .val (.long p2), .second, .val (.int p3), .val (.double xq), .second, .val (.long r), .second, .val (.long (1125899906842624 : Int64)), .second, .unset, .unset] [(.int (lcmpW r (1125899906842624 : Int64)))])) _
      refine XS.ifNo X1.here hx rfl (hb hby at_45) rfl ((if0 _ _).trans (tlt hq).2.1) ?_
      show Steps p.tables e below (T1.setTop (mkF m 48 #[.val (.long p0), .second, .val (.int p1), .val (.long p2), .second, .val (.int p3), .val (.double xq), .second, .val (.long r), .second, .val (.long (1125899906842624 : Int64)), .second, .unset, .unset] [])) _
      refine XS.lload X1.here hx rfl (hb hby at_48) rfl ?_
      show Steps p.tables e below (T1.setTop (mkF m 50 #[.val (.long p0), .second, .val (.int p1), .val (.long p2), .second, .val (.int p3), .val (.double xq), .second, .val (.long r), .second, .val (.long (1125899906842624 : Int64)), .second, .unset, .unset] [(.long r)])) _
      refine XS.iload X1.here hx rfl (hb hby at_50) rfl ?_
      show Steps p.tables e below (T1.setTop (mkF m 52 #[.val (.long p0), .second, .val (.int p1), .val (.long p2), .second, .val (.int p3), .val (.double xq), .second, .val (.long r), .second, .val (.long (1125899906842624 : Int64)), .second, .unset, .unset] [(.int p3), (.long r)])) _
      refine XS.iconst X1.here hx rfl (hb hby at_52) ?_
      show Steps p.tables e below (T1.setTop (mkF m 53 #[.val (.long p0), .second, .val (.int p1), .val (.long p2), .second, .val (.int p3), .val (.double xq), .second, .val (.long r), .second, .val (.long (1125899906842624 : Int64)), .second, .unset, .unset] [(.int (1 : Int32)), (.int p3), (.long r)])) _
      refine XS.ishr X1.here hx rfl (hb hby at_53) rfl ?_
      show Steps p.tables e below (T1.setTop (mkF m 54 #[.val (.long p0), .second, .val (.int p1), .val (.long p2), .second, .val (.int p3), .val (.double xq), .second, .val (.long r), .second, .val (.long (1125899906842624 : Int64)), .second, .unset, .unset] [(.int (p3 >>> ((1 : Int32) &&& 31))), (.long r)])) _
      refine XS.iconst X1.here hx rfl (hb hby at_54) ?_
      show Steps p.tables e below (T1.setTop (mkF m 55 #[.val (.long p0), .second, .val (.int p1), .val (.long p2), .second, .val (.int p3), .val (.double xq), .second, .val (.long r), .second, .val (.long (1125899906842624 : Int64)), .second, .unset, .unset] [(.int (3 : Int32)), (.int (p3 >>> ((1 : Int32) &&& 31))), (.long r)])) _
      refine iremM (g := (mkF m 55 #[.val (.long p0), .second, .val (.int p1), .val (.long p2), .second, .val (.int p3), .val (.double xq), .second, .val (.long r), .second, .val (.long (1125899906842624 : Int64)), .second, .unset, .unset] [(.int (3 : Int32)), (.int (p3 >>> ((1 : Int32) &&& 31))), (.long r)])) X1 hx rfl (hb hby at_55) rfl (by decide) ?_
      show Steps p.tables e below (T1.setTop (mkF m 56 #[.val (.long p0), .second, .val (.int p1), .val (.long p2), .second, .val (.int p3), .val (.double xq), .second, .val (.long r), .second, .val (.long (1125899906842624 : Int64)), .second, .unset, .unset] [(.int ((p3 >>> ((1 : Int32) &&& 31)) % (3 : Int32))), (.long r)])) _
      refine XS.i2l X1.here hx rfl (hb hby at_56) rfl ?_
      show Steps p.tables e below (T1.setTop (mkF m 57 #[.val (.long p0), .second, .val (.int p1), .val (.long p2), .second, .val (.int p3), .val (.double xq), .second, .val (.long r), .second, .val (.long (1125899906842624 : Int64)), .second, .unset, .unset] [(.long (((p3 >>> ((1 : Int32) &&& 31)) % (3 : Int32)).toInt64)), (.long r)])) _
      refine XS.ladd X1.here hx rfl (hb hby at_57) rfl ?_
      show Steps p.tables e below (T1.setTop (mkF m 58 #[.val (.long p0), .second, .val (.int p1), .val (.long p2), .second, .val (.int p3), .val (.double xq), .second, .val (.long r), .second, .val (.long (1125899906842624 : Int64)), .second, .unset, .unset] [(.long (r + (((p3 >>> ((1 : Int32) &&& 31)) % (3 : Int32)).toInt64)))])) _
      refine XS.lstore X1.here hx rfl (hb hby at_58) rfl (l' := #[.val (.long p0), .second, .val (.int p1), .val (.long p2), .second, .val (.int p3), .val (.double xq), .second, .val (.long r), .second, .val (.long (1125899906842624 : Int64)), .second, .val (.long (r + (((p3 >>> ((1 : Int32) &&& 31)) % (3 : Int32)).toInt64))), .second]) rfl ?_
      show Steps p.tables e below (T1.setTop (mkF m 60 #[.val (.long p0), .second, .val (.int p1), .val (.long p2), .second, .val (.int p3), .val (.double xq), .second, .val (.long r), .second, .val (.long (1125899906842624 : Int64)), .second, .val (.long (r + (((p3 >>> ((1 : Int32) &&& 31)) % (3 : Int32)).toInt64))), .second] [])) _
      refine XS.goto X1.here hx rfl (pc0 := 60) (pc' := 70) rfl (hb hby at_60) (by decide) (by decide) ?_
      show Steps p.tables e below (T1.setTop (mkF m 70 #[.val (.long p0), .second, .val (.int p1), .val (.long p2), .second, .val (.int p3), .val (.double xq), .second, .val (.long r), .second, .val (.long (1125899906842624 : Int64)), .second, .val (.long (r + (((p3 >>> ((1 : Int32) &&& 31)) % (3 : Int32)).toInt64))), .second] [])) _
      exact kt
    · rw [if_neg hq] at hj_m3; subst hj_m3
      show Steps p.tables e below (T1.setTop (mkF m 45 #[.val (.long p0), .second, .val (.int p1), .val (.long p2), .second, .val (.int p3), .val (.double xq), .second, .val (.long r), .second, .val (.long (1125899906842624 : Int64)), .second, .unset, .unset] [(.int (lcmpW r (1125899906842624 : Int64)))])) _
      refine XS.ifYes X1.here hx rfl (pc0 := 45) (pc' := 63) rfl (hb hby at_45) rfl ((if0 _ _).trans (flt hq).2.1) (by decide) (by decide) ?_
      show Steps p.tables e below (T1.setTop (mkF m 63 #[.val (.long p0), .second, .val (.int p1), .val (.long p2), .second, .val (.int p3), .val (.double xq), .second, .val (.long r), .second, .val (.long (1125899906842624 : Int64)), .second, .unset, .unset] [])) _
      refine XS.lloadN X1.here hx rfl (hb hby at_63) rfl ?_
      show Steps p.tables e below (T1.setTop (mkF m 64 #[.val (.long p0), .second, .val (.int p1), .val (.long p2), .second, .val (.int p3), .val (.double xq), .second, .val (.long r), .second, .val (.long (1125899906842624 : Int64)), .second, .unset, .unset] [(.long p2)])) _
      refine X1.ldc2Long hx hown (mvT hZ (hw _ (List.mem_of_getElem? (i := 20) rfl))) (g := (mkF m 64 #[.val (.long p0), .second, .val (.int p1), .val (.long p2), .second, .val (.int p3), .val (.double xq), .second, .val (.long r), .second, .val (.long (1125899906842624 : Int64)), .second, .unset, .unset] [(.long p2)])) rfl (hb hby at_64) _ ?_
      show Steps p.tables e below (T1.setTop (mkF m 67 #[.val (.long p0), .second, .val (.int p1), .val (.long p2), .second, .val (.int p3), .val (.double xq), .second, .val (.long r), .second, .val (.long (1125899906842624 : Int64)), .second, .unset, .unset] [(.long (2251799813685248 : Int64)), (.long p2)])) _
      refine own_lremM (g := (mkF m 67 #[.val (.long p0), .second, .val (.int p1), .val (.long p2), .second, .val (.int p3), .val (.double xq), .second, .val (.long r), .second, .val (.long (1125899906842624 : Int64)), .second, .unset, .unset] [(.long (2251799813685248 : Int64)), (.long p2)])) X1 hx rfl (hb hby at_67) rfl (by decide) ?_
      show Steps p.tables e below (T1.setTop (mkF m 68 #[.val (.long p0), .second, .val (.int p1), .val (.long p2), .second, .val (.int p3), .val (.double xq), .second, .val (.long r), .second, .val (.long (1125899906842624 : Int64)), .second, .unset, .unset] [(.long (p2 % (2251799813685248 : Int64)))])) _
      refine XS.lstore X1.here hx rfl (hb hby at_68) rfl (l' := #[.val (.long p0), .second, .val (.int p1), .val (.long p2), .second, .val (.int p3), .val (.double xq), .second, .val (.long r), .second, .val (.long (1125899906842624 : Int64)), .second, .val (.long (p2 % (2251799813685248 : Int64))), .second]) rfl ?_
      show Steps p.tables e below (T1.setTop (mkF m 70 #[.val (.long p0), .second, .val (.int p1), .val (.long p2), .second, .val (.int p3), .val (.double xq), .second, .val (.long r), .second, .val (.long (1125899906842624 : Int64)), .second, .val (.long (p2 % (2251799813685248 : Int64))), .second] [])) _
      exact kt
  have jn3 : ∀ target, Steps p.tables e below (T1.setTop (mkF m 70 #[.val (.long p0), .second, .val (.int p1), .val (.long p2), .second, .val (.int p3), .val (.double xq), .second, .val (.long r), .second, .val (.long (1125899906842624 : Int64)), .second, .val (.long m2), .second] [])) target → Steps p.tables e below (T1.setTop (mkF m 37 #[.val (.long p0), .second, .val (.int p1), .val (.long p2), .second, .val (.int p3), .val (.double xq), .second, .val (.long r), .second, .val (.long (1125899906842624 : Int64)), .second, .unset, .unset] [(.int (lcmpW r (-(1125899906842624 : Int64))))])) target := by
    intro target kt
    by_cases hq : (0 : Int32) < (lcmpW r (-(1125899906842624 : Int64)))
    · rw [if_pos hq] at hj_m2; subst hj_m2
      show Steps p.tables e below (T1.setTop (mkF m 37 #[.val (.long p0), .second, .val (.int p1), .val (.long p2), .second, .val (.int p3), .val (.double xq), .second, .val (.long r), .second, .val (.long (1125899906842624 : Int64)), .second, .unset, .unset] [(.int (lcmpW r (-(1125899906842624 : Int64))))])) _
      refine XS.ifNo X1.here hx rfl (hb hby at_37) rfl ((if0 _ _).trans (tlt hq).2.2.2) ?_
      show Steps p.tables e below (T1.setTop (mkF m 40 #[.val (.long p0), .second, .val (.int p1), .val (.long p2), .second, .val (.int p3), .val (.double xq), .second, .val (.long r), .second, .val (.long (1125899906842624 : Int64)), .second, .unset, .unset] [])) _
      refine XS.lload X1.here hx rfl (hb hby at_40) rfl ?_
      show Steps p.tables e below (T1.setTop (mkF m 42 #[.val (.long p0), .second, .val (.int p1), .val (.long p2), .second, .val (.int p3), .val (.double xq), .second, .val (.long r), .second, .val (.long (1125899906842624 : Int64)), .second, .unset, .unset] [(.long r)])) _
      refine XS.lload X1.here hx rfl (hb hby at_42) rfl ?_
      show Steps p.tables e below (T1.setTop (mkF m 44 #[.val (.long p0), .second, .val (.int p1), .val (.long p2), .second, .val (.int p3), .val (.double xq), .second, .val (.long r), .second, .val (.long (1125899906842624 : Int64)), .second, .unset, .unset] [(.long (1125899906842624 : Int64)), (.long r)])) _
      refine XS.lcmp X1.here hx rfl (hb hby at_44) rfl ?_
      show Steps p.tables e below (T1.setTop (mkF m 45 #[.val (.long p0), .second, .val (.int p1), .val (.long p2), .second, .val (.int p3), .val (.double xq), .second, .val (.long r), .second, .val (.long (1125899906842624 : Int64)), .second, .unset, .unset] [(.int (lcmpW r (1125899906842624 : Int64)))])) _
      refine jn2 _ ?_
      show Steps p.tables e below (T1.setTop (mkF m 70 #[.val (.long p0), .second, .val (.int p1), .val (.long p2), .second, .val (.int p3), .val (.double xq), .second, .val (.long r), .second, .val (.long (1125899906842624 : Int64)), .second, .val (.long m3), .second] [])) _
      exact kt
    · rw [if_neg hq] at hj_m2; subst hj_m2
      show Steps p.tables e below (T1.setTop (mkF m 37 #[.val (.long p0), .second, .val (.int p1), .val (.long p2), .second, .val (.int p3), .val (.double xq), .second, .val (.long r), .second, .val (.long (1125899906842624 : Int64)), .second, .unset, .unset] [(.int (lcmpW r (-(1125899906842624 : Int64))))])) _
      refine XS.ifYes X1.here hx rfl (pc0 := 37) (pc' := 63) rfl (hb hby at_37) rfl ((if0 _ _).trans (flt hq).2.2.2) (by decide) (by decide) ?_
      show Steps p.tables e below (T1.setTop (mkF m 63 #[.val (.long p0), .second, .val (.int p1), .val (.long p2), .second, .val (.int p3), .val (.double xq), .second, .val (.long r), .second, .val (.long (1125899906842624 : Int64)), .second, .unset, .unset] [])) _
      refine XS.lloadN X1.here hx rfl (hb hby at_63) rfl ?_
      show Steps p.tables e below (T1.setTop (mkF m 64 #[.val (.long p0), .second, .val (.int p1), .val (.long p2), .second, .val (.int p3), .val (.double xq), .second, .val (.long r), .second, .val (.long (1125899906842624 : Int64)), .second, .unset, .unset] [(.long p2)])) _
      refine X1.ldc2Long hx hown (mvT hZ (hw _ (List.mem_of_getElem? (i := 20) rfl))) (g := (mkF m 64 #[.val (.long p0), .second, .val (.int p1), .val (.long p2), .second, .val (.int p3), .val (.double xq), .second, .val (.long r), .second, .val (.long (1125899906842624 : Int64)), .second, .unset, .unset] [(.long p2)])) rfl (hb hby at_64) _ ?_
      show Steps p.tables e below (T1.setTop (mkF m 67 #[.val (.long p0), .second, .val (.int p1), .val (.long p2), .second, .val (.int p3), .val (.double xq), .second, .val (.long r), .second, .val (.long (1125899906842624 : Int64)), .second, .unset, .unset] [(.long (2251799813685248 : Int64)), (.long p2)])) _
      refine own_lremM (g := (mkF m 67 #[.val (.long p0), .second, .val (.int p1), .val (.long p2), .second, .val (.int p3), .val (.double xq), .second, .val (.long r), .second, .val (.long (1125899906842624 : Int64)), .second, .unset, .unset] [(.long (2251799813685248 : Int64)), (.long p2)])) X1 hx rfl (hb hby at_67) rfl (by decide) ?_
      show Steps p.tables e below (T1.setTop (mkF m 68 #[.val (.long p0), .second, .val (.int p1), .val (.long p2), .second, .val (.int p3), .val (.double xq), .second, .val (.long r), .second, .val (.long (1125899906842624 : Int64)), .second, .unset, .unset] [(.long (p2 % (2251799813685248 : Int64)))])) _
      refine XS.lstore X1.here hx rfl (hb hby at_68) rfl (l' := #[.val (.long p0), .second, .val (.int p1), .val (.long p2), .second, .val (.int p3), .val (.double xq), .second, .val (.long r), .second, .val (.long (1125899906842624 : Int64)), .second, .val (.long (p2 % (2251799813685248 : Int64))), .second]) rfl ?_
      show Steps p.tables e below (T1.setTop (mkF m 70 #[.val (.long p0), .second, .val (.int p1), .val (.long p2), .second, .val (.int p3), .val (.double xq), .second, .val (.long r), .second, .val (.long (1125899906842624 : Int64)), .second, .val (.long (p2 % (2251799813685248 : Int64))), .second] [])) _
      exact kt
  have jn4 : ∀ target, Steps p.tables e below (T1.setTop (mkF m 70 #[.val (.long p0), .second, .val (.int p1), .val (.long p2), .second, .val (.int p3), .val (.double xq), .second, .val (.long r), .second, .val (.long (1125899906842624 : Int64)), .second, .val (.long m1), .second] [])) target → Steps p.tables e below (T1.setTop (mkF m 28 #[.val (.long p0), .second, .val (.int p1), .val (.long p2), .second, .val (.int p3), .val (.double xq), .second, .val (.long r), .second, .val (.long (1125899906842624 : Int64)), .second, .unset, .unset] [(.int (p3 &&& (1 : Int32)))])) target := by
    intro target kt
    by_cases hq : (p3 &&& (1 : Int32)) = (0 : Int32)
    · rw [if_pos hq] at hj_m1; subst hj_m1
      show Steps p.tables e below (T1.setTop (mkF m 28 #[.val (.long p0), .second, .val (.int p1), .val (.long p2), .second, .val (.int p3), .val (.double xq), .second, .val (.long r), .second, .val (.long (1125899906842624 : Int64)), .second, .unset, .unset] [(.int (p3 &&& (1 : Int32)))])) _
      refine XS.ifYes X1.here hx rfl (pc0 := 28) (pc' := 63) rfl (hb hby at_28) rfl ((if0 _ _).trans (teq hq).1) (by decide) (by decide) ?_
      show Steps p.tables e below (T1.setTop (mkF m 63 #[.val (.long p0), .second, .val (.int p1), .val (.long p2), .second, .val (.int p3), .val (.double xq), .second, .val (.long r), .second, .val (.long (1125899906842624 : Int64)), .second, .unset, .unset] [])) _
      refine XS.lloadN X1.here hx rfl (hb hby at_63) rfl ?_
      show Steps p.tables e below (T1.setTop (mkF m 64 #[.val (.long p0), .second, .val (.int p1), .val (.long p2), .second, .val (.int p3), .val (.double xq), .second, .val (.long r), .second, .val (.long (1125899906842624 : Int64)), .second, .unset, .unset] [(.long p2)])) _
      refine X1.ldc2Long hx hown (mvT hZ (hw _ (List.mem_of_getElem? (i := 20) rfl))) (g := (mkF m 64 #[.val (.long p0), .second, .val (.int p1), .val (.long p2), .second, .val (.int p3), .val (.double xq), .second, .val (.long r), .second, .val (.long (1125899906842624 : Int64)), .second, .unset, .unset] [(.long p2)])) rfl (hb hby at_64) _ ?_
      show Steps p.tables e below (T1.setTop (mkF m 67 #[.val (.long p0), .second, .val (.int p1), .val (.long p2), .second, .val (.int p3), .val (.double xq), .second, .val (.long r), .second, .val (.long (1125899906842624 : Int64)), .second, .unset, .unset] [(.long (2251799813685248 : Int64)), (.long p2)])) _
      refine own_lremM (g := (mkF m 67 #[.val (.long p0), .second, .val (.int p1), .val (.long p2), .second, .val (.int p3), .val (.double xq), .second, .val (.long r), .second, .val (.long (1125899906842624 : Int64)), .second, .unset, .unset] [(.long (2251799813685248 : Int64)), (.long p2)])) X1 hx rfl (hb hby at_67) rfl (by decide) ?_
      show Steps p.tables e below (T1.setTop (mkF m 68 #[.val (.long p0), .second, .val (.int p1), .val (.long p2), .second, .val (.int p3), .val (.double xq), .second, .val (.long r), .second, .val (.long (1125899906842624 : Int64)), .second, .unset, .unset] [(.long (p2 % (2251799813685248 : Int64)))])) _
      refine XS.lstore X1.here hx rfl (hb hby at_68) rfl (l' := #[.val (.long p0), .second, .val (.int p1), .val (.long p2), .second, .val (.int p3), .val (.double xq), .second, .val (.long r), .second, .val (.long (1125899906842624 : Int64)), .second, .val (.long (p2 % (2251799813685248 : Int64))), .second]) rfl ?_
      show Steps p.tables e below (T1.setTop (mkF m 70 #[.val (.long p0), .second, .val (.int p1), .val (.long p2), .second, .val (.int p3), .val (.double xq), .second, .val (.long r), .second, .val (.long (1125899906842624 : Int64)), .second, .val (.long (p2 % (2251799813685248 : Int64))), .second] [])) _
      exact kt
    · rw [if_neg hq] at hj_m1; subst hj_m1
      show Steps p.tables e below (T1.setTop (mkF m 28 #[.val (.long p0), .second, .val (.int p1), .val (.long p2), .second, .val (.int p3), .val (.double xq), .second, .val (.long r), .second, .val (.long (1125899906842624 : Int64)), .second, .unset, .unset] [(.int (p3 &&& (1 : Int32)))])) _
      refine XS.ifNo X1.here hx rfl (hb hby at_28) rfl ((if0 _ _).trans (feq hq).1) ?_
      show Steps p.tables e below (T1.setTop (mkF m 31 #[.val (.long p0), .second, .val (.int p1), .val (.long p2), .second, .val (.int p3), .val (.double xq), .second, .val (.long r), .second, .val (.long (1125899906842624 : Int64)), .second, .unset, .unset] [])) _
      refine XS.lload X1.here hx rfl (hb hby at_31) rfl ?_
      show Steps p.tables e below (T1.setTop (mkF m 33 #[.val (.long p0), .second, .val (.int p1), .val (.long p2), .second, .val (.int p3), .val (.double xq), .second, .val (.long r), .second, .val (.long (1125899906842624 : Int64)), .second, .unset, .unset] [(.long r)])) _
      refine XS.lload X1.here hx rfl (hb hby at_33) rfl ?_
      show Steps p.tables e below (T1.setTop (mkF m 35 #[.val (.long p0), .second, .val (.int p1), .val (.long p2), .second, .val (.int p3), .val (.double xq), .second, .val (.long r), .second, .val (.long (1125899906842624 : Int64)), .second, .unset, .unset] [(.long (1125899906842624 : Int64)), (.long r)])) _
      refine XS.lneg X1.here hx rfl (hb hby at_35) rfl ?_
      show Steps p.tables e below (T1.setTop (mkF m 36 #[.val (.long p0), .second, .val (.int p1), .val (.long p2), .second, .val (.int p3), .val (.double xq), .second, .val (.long r), .second, .val (.long (1125899906842624 : Int64)), .second, .unset, .unset] [(.long (-(1125899906842624 : Int64))), (.long r)])) _
      refine XS.lcmp X1.here hx rfl (hb hby at_36) rfl ?_
      show Steps p.tables e below (T1.setTop (mkF m 37 #[.val (.long p0), .second, .val (.int p1), .val (.long p2), .second, .val (.int p3), .val (.double xq), .second, .val (.long r), .second, .val (.long (1125899906842624 : Int64)), .second, .unset, .unset] [(.int (lcmpW r (-(1125899906842624 : Int64))))])) _
      refine jn3 _ ?_
      show Steps p.tables e below (T1.setTop (mkF m 70 #[.val (.long p0), .second, .val (.int p1), .val (.long p2), .second, .val (.int p3), .val (.double xq), .second, .val (.long r), .second, .val (.long (1125899906842624 : Int64)), .second, .val (.long m2), .second] [])) _
      exact kt
  obtain ⟨_, _, ⟨T5, L5, k5, n5⟩, -, X5, ⟨Lc5, hQ5, l5, y5, z5⟩, st5⟩ := Jvm.LawKit.callS X1 hx (y := (⟨"com/example/nelira/nelira/index/Millionths", "roundsBelow", "(DJ)Z"⟩ : MethodName)) hown (mvT hZ (hw _ (List.mem_of_getElem? (i := 21) rfl))) (mvT hZ (hw _ (List.mem_of_getElem? (i := 22) rfl))) (mvT hZ (hw _ (List.mem_of_getElem? (i := 3) rfl))) (mvT hZ (hw _ (List.mem_of_getElem? (i := 23) rfl))) (by decide) (backOf (W := 0) (rbT l Z a0 hw [] xq m1 y h0 n0 Z0 nn4_74 hq4_74 nn10_74 hc12_74) hZ (hw _ (List.mem_of_getElem? (i := 23) rfl)) (hw _ (List.mem_of_getElem? (i := 3) rfl)) (by decide) (by decide)) (g := (mkF m 74 #[.val (.long p0), .second, .val (.int p1), .val (.long p2), .second, .val (.int p3), .val (.double xq), .second, .val (.long r), .second, .val (.long (1125899906842624 : Int64)), .second, .val (.long m1), .second] [(.long m1), (.double xq)])) rfl (by rw [hml]; rfl) (argsL := [(.double xq), (.long m1)]) (rest := []) (lenOf pd_1 rfl) rfl (by show 2 * 0 + _ ≤ _; exact Nat.le_of_eq rfl) (hb hby at_74) (fun _ _ => ⟨rfl, e1, (by decide : 0 + 0 ≤ _), (by decide : 0 + 0 ≤ _)⟩)
  dsimp only [Pt.U, Pt.locs, Pt.cells, Pt.slots] at X5 l5 y5 z5 st5 hQ5
  subst l5 y5 z5
  obtain ⟨rfl, N5q, eh5⟩ := hQ5
  have N5 := Fr.app N1 N5q
  have e5 : T5.heap = h0 := eh5
  obtain ⟨fs, hr, hrun, hended, hW, hsame⟩ := X5.leave (v := some (.int (1 : Int32))) (fun h => by rw [Bd.returns] at h; cases h)
  refine ⟨_, _, pre0 _ ?_, hrun, hended, _, _, rfl, ?_, ⟨_, rfl⟩, hW, hsame.mono (by decide) (by decide)⟩
  · show Steps p.tables e below (s₁.setTop (mkF m 0 #[.val (.long p0), .second, .val (.int p1), .val (.long p2), .second, .val (.int p3), .unset, .unset, .unset, .unset, .unset, .unset, .unset, .unset] [])) _
    refine XS.lloadN X0.here hx rfl (hb hby at_0) rfl ?_
    show Steps p.tables e below (s₁.setTop (mkF m 1 #[.val (.long p0), .second, .val (.int p1), .val (.long p2), .second, .val (.int p3), .unset, .unset, .unset, .unset, .unset, .unset, .unset, .unset] [(.long p0)])) _
    refine XS.l2dS X0.here hx rfl (hb hby at_1) rfl (v := (FP.l2d p0)) rfl ?_
    show Steps p.tables e below (s₁.setTop (mkF m 2 #[.val (.long p0), .second, .val (.int p1), .val (.long p2), .second, .val (.int p3), .unset, .unset, .unset, .unset, .unset, .unset, .unset, .unset] [(.double (FP.l2d p0))])) _
    refine XS.iloadN X0.here hx rfl (hb hby at_2) rfl ?_
    show Steps p.tables e below (s₁.setTop (mkF m 3 #[.val (.long p0), .second, .val (.int p1), .val (.long p2), .second, .val (.int p3), .unset, .unset, .unset, .unset, .unset, .unset, .unset, .unset] [(.int p1), (.double (FP.l2d p0))])) _
    refine X0.ldcInt hx hown (mvT hZ (hw _ (List.mem_of_getElem? (i := 0) rfl))) (g := (mkF m 3 #[.val (.long p0), .second, .val (.int p1), .val (.long p2), .second, .val (.int p3), .unset, .unset, .unset, .unset, .unset, .unset, .unset, .unset] [(.int p1), (.double (FP.l2d p0))])) rfl (hb hby at_3) _ ?_
    show Steps p.tables e below (s₁.setTop (mkF m 5 #[.val (.long p0), .second, .val (.int p1), .val (.long p2), .second, .val (.int p3), .unset, .unset, .unset, .unset, .unset, .unset, .unset, .unset] [(.int (4194303 : Int32)), (.int p1), (.double (FP.l2d p0))])) _
    refine XS.iand X0.here hx rfl (hb hby at_5) rfl ?_
    show Steps p.tables e below (s₁.setTop (mkF m 6 #[.val (.long p0), .second, .val (.int p1), .val (.long p2), .second, .val (.int p3), .unset, .unset, .unset, .unset, .unset, .unset, .unset, .unset] [(.int (p1 &&& (4194303 : Int32))), (.double (FP.l2d p0))])) _
    refine XS.iconst X0.here hx rfl (hb hby at_6) ?_
    show Steps p.tables e below (s₁.setTop (mkF m 7 #[.val (.long p0), .second, .val (.int p1), .val (.long p2), .second, .val (.int p3), .unset, .unset, .unset, .unset, .unset, .unset, .unset, .unset] [(.int (1 : Int32)), (.int (p1 &&& (4194303 : Int32))), (.double (FP.l2d p0))])) _
    refine XS.iadd X0.here hx rfl (hb hby at_7) rfl ?_
    show Steps p.tables e below (s₁.setTop (mkF m 8 #[.val (.long p0), .second, .val (.int p1), .val (.long p2), .second, .val (.int p3), .unset, .unset, .unset, .unset, .unset, .unset, .unset, .unset] [(.int ((p1 &&& (4194303 : Int32)) + (1 : Int32))), (.double (FP.l2d p0))])) _
    refine XS.i2dS X0.here hx rfl (hb hby at_8) rfl (v := (FP.i2d ((p1 &&& (4194303 : Int32)) + (1 : Int32)))) rfl ?_
    show Steps p.tables e below (s₁.setTop (mkF m 9 #[.val (.long p0), .second, .val (.int p1), .val (.long p2), .second, .val (.int p3), .unset, .unset, .unset, .unset, .unset, .unset, .unset, .unset] [(.double (FP.i2d ((p1 &&& (4194303 : Int32)) + (1 : Int32)))), (.double (FP.l2d p0))])) _
    refine XS.ddivS X0.here hx rfl (hb hby at_9) rfl nn9 (v := xq) hq9 ?_
    show Steps p.tables e below (s₁.setTop (mkF m 10 #[.val (.long p0), .second, .val (.int p1), .val (.long p2), .second, .val (.int p3), .unset, .unset, .unset, .unset, .unset, .unset, .unset, .unset] [(.double xq)])) _
    refine XS.dstore X0.here hx rfl (hb hby at_10) rfl (l' := #[.val (.long p0), .second, .val (.int p1), .val (.long p2), .second, .val (.int p3), .val (.double xq), .second, .unset, .unset, .unset, .unset, .unset, .unset]) rfl ?_
    show Steps p.tables e below (s₁.setTop (mkF m 12 #[.val (.long p0), .second, .val (.int p1), .val (.long p2), .second, .val (.int p3), .val (.double xq), .second, .unset, .unset, .unset, .unset, .unset, .unset] [])) _
    refine XS.dload X0.here hx rfl (hb hby at_12) rfl ?_
    show Steps p.tables e below (s₁.setTop (mkF m 14 #[.val (.long p0), .second, .val (.int p1), .val (.long p2), .second, .val (.int p3), .val (.double xq), .second, .unset, .unset, .unset, .unset, .unset, .unset] [(.double xq)])) _
    refine st1 _ ?_
    show Steps p.tables e below (T1.setTop (mkF m 17 #[.val (.long p0), .second, .val (.int p1), .val (.long p2), .second, .val (.int p3), .val (.double xq), .second, .unset, .unset, .unset, .unset, .unset, .unset] [(.long (FP.d2l y))])) _
    rw [hv14]
    show Steps p.tables e below (T1.setTop (mkF m 17 #[.val (.long p0), .second, .val (.int p1), .val (.long p2), .second, .val (.int p3), .val (.double xq), .second, .unset, .unset, .unset, .unset, .unset, .unset] [(.long r)])) _
    refine XS.lstore X1.here hx rfl (hb hby at_17) rfl (l' := #[.val (.long p0), .second, .val (.int p1), .val (.long p2), .second, .val (.int p3), .val (.double xq), .second, .val (.long r), .second, .unset, .unset, .unset, .unset]) rfl ?_
    show Steps p.tables e below (T1.setTop (mkF m 19 #[.val (.long p0), .second, .val (.int p1), .val (.long p2), .second, .val (.int p3), .val (.double xq), .second, .val (.long r), .second, .unset, .unset, .unset, .unset] [])) _
    refine X1.ldc2Long hx hown (mvT hZ (hw _ (List.mem_of_getElem? (i := 19) rfl))) (g := (mkF m 19 #[.val (.long p0), .second, .val (.int p1), .val (.long p2), .second, .val (.int p3), .val (.double xq), .second, .val (.long r), .second, .unset, .unset, .unset, .unset] [])) rfl (hb hby at_19) _ ?_
    show Steps p.tables e below (T1.setTop (mkF m 22 #[.val (.long p0), .second, .val (.int p1), .val (.long p2), .second, .val (.int p3), .val (.double xq), .second, .val (.long r), .second, .unset, .unset, .unset, .unset] [(.long (1125899906842624 : Int64))])) _
    refine XS.lstore X1.here hx rfl (hb hby at_22) rfl (l' := #[.val (.long p0), .second, .val (.int p1), .val (.long p2), .second, .val (.int p3), .val (.double xq), .second, .val (.long r), .second, .val (.long (1125899906842624 : Int64)), .second, .unset, .unset]) rfl ?_
    show Steps p.tables e below (T1.setTop (mkF m 24 #[.val (.long p0), .second, .val (.int p1), .val (.long p2), .second, .val (.int p3), .val (.double xq), .second, .val (.long r), .second, .val (.long (1125899906842624 : Int64)), .second, .unset, .unset] [])) _
    refine XS.iload X1.here hx rfl (hb hby at_24) rfl ?_
    show Steps p.tables e below (T1.setTop (mkF m 26 #[.val (.long p0), .second, .val (.int p1), .val (.long p2), .second, .val (.int p3), .val (.double xq), .second, .val (.long r), .second, .val (.long (1125899906842624 : Int64)), .second, .unset, .unset] [(.int p3)])) _
    refine XS.iconst X1.here hx rfl (hb hby at_26) ?_
    show Steps p.tables e below (T1.setTop (mkF m 27 #[.val (.long p0), .second, .val (.int p1), .val (.long p2), .second, .val (.int p3), .val (.double xq), .second, .val (.long r), .second, .val (.long (1125899906842624 : Int64)), .second, .unset, .unset] [(.int (1 : Int32)), (.int p3)])) _
    refine XS.iand X1.here hx rfl (hb hby at_27) rfl ?_
    show Steps p.tables e below (T1.setTop (mkF m 28 #[.val (.long p0), .second, .val (.int p1), .val (.long p2), .second, .val (.int p3), .val (.double xq), .second, .val (.long r), .second, .val (.long (1125899906842624 : Int64)), .second, .unset, .unset] [(.int (p3 &&& (1 : Int32)))])) _
    refine jn4 _ ?_
    show Steps p.tables e below (T1.setTop (mkF m 70 #[.val (.long p0), .second, .val (.int p1), .val (.long p2), .second, .val (.int p3), .val (.double xq), .second, .val (.long r), .second, .val (.long (1125899906842624 : Int64)), .second, .val (.long m1), .second] [])) _
    refine XS.dload X1.here hx rfl (hb hby at_70) rfl ?_
    show Steps p.tables e below (T1.setTop (mkF m 72 #[.val (.long p0), .second, .val (.int p1), .val (.long p2), .second, .val (.int p3), .val (.double xq), .second, .val (.long r), .second, .val (.long (1125899906842624 : Int64)), .second, .val (.long m1), .second] [(.double xq)])) _
    refine XS.lload X1.here hx rfl (hb hby at_72) rfl ?_
    show Steps p.tables e below (T1.setTop (mkF m 74 #[.val (.long p0), .second, .val (.int p1), .val (.long p2), .second, .val (.int p3), .val (.double xq), .second, .val (.long r), .second, .val (.long (1125899906842624 : Int64)), .second, .val (.long m1), .second] [(.long m1), (.double xq)])) _
    refine st5 _ ?_
    show Steps p.tables e below (T5.setTop (mkF m 77 #[.val (.long p0), .second, .val (.int p1), .val (.long p2), .second, .val (.int p3), .val (.double xq), .second, .val (.long r), .second, .val (.long (1125899906842624 : Int64)), .second, .val (.long m1), .second] [(.int (1 : Int32))])) _
    refine XS.lload X5.here hx rfl (hb hby at_77) rfl ?_
    show Steps p.tables e below (T5.setTop (mkF m 79 #[.val (.long p0), .second, .val (.int p1), .val (.long p2), .second, .val (.int p3), .val (.double xq), .second, .val (.long r), .second, .val (.long (1125899906842624 : Int64)), .second, .val (.long m1), .second] [(.long r), (.int (1 : Int32))])) _
    refine XS.lload X5.here hx rfl (hb hby at_79) rfl ?_
    show Steps p.tables e below (T5.setTop (mkF m 81 #[.val (.long p0), .second, .val (.int p1), .val (.long p2), .second, .val (.int p3), .val (.double xq), .second, .val (.long r), .second, .val (.long (1125899906842624 : Int64)), .second, .val (.long m1), .second] [(.long m1), (.long r), (.int (1 : Int32))])) _
    refine XS.lcmp X5.here hx rfl (hb hby at_81) rfl ?_
    show Steps p.tables e below (T5.setTop (mkF m 82 #[.val (.long p0), .second, .val (.int p1), .val (.long p2), .second, .val (.int p3), .val (.double xq), .second, .val (.long r), .second, .val (.long (1125899906842624 : Int64)), .second, .val (.long m1), .second] [(.int (lcmpW r m1)), (.int (1 : Int32))])) _
    refine XS.ifNo X5.here hx rfl (hb hby at_82) rfl ((if0 _ _).trans (tlt hc82).2.1) ?_
    show Steps p.tables e below (T5.setTop (mkF m 85 #[.val (.long p0), .second, .val (.int p1), .val (.long p2), .second, .val (.int p3), .val (.double xq), .second, .val (.long r), .second, .val (.long (1125899906842624 : Int64)), .second, .val (.long m1), .second] [(.int (1 : Int32))])) _
    refine XS.iconst X5.here hx rfl (hb hby at_85) ?_
    show Steps p.tables e below (T5.setTop (mkF m 86 #[.val (.long p0), .second, .val (.int p1), .val (.long p2), .second, .val (.int p3), .val (.double xq), .second, .val (.long r), .second, .val (.long (1125899906842624 : Int64)), .second, .val (.long m1), .second] [(.int (1 : Int32)), (.int (1 : Int32))])) _
    refine XS.goto X5.here hx rfl (pc0 := 86) (pc' := 90) rfl (hb hby at_86) (by decide) (by decide) ?_
    show Steps p.tables e below (T5.setTop (mkF m 90 #[.val (.long p0), .second, .val (.int p1), .val (.long p2), .second, .val (.int p3), .val (.double xq), .second, .val (.long r), .second, .val (.long (1125899906842624 : Int64)), .second, .val (.long m1), .second] [(.int (1 : Int32)), (.int (1 : Int32))])) _
    refine XS.icmpNo X5.here hx rfl (hb hby at_90) rfl (teq (by decide : (1 : Int32) = (1 : Int32))).2 ?_
    show Steps p.tables e below (T5.setTop (mkF m 93 #[.val (.long p0), .second, .val (.int p1), .val (.long p2), .second, .val (.int p3), .val (.double xq), .second, .val (.long r), .second, .val (.long (1125899906842624 : Int64)), .second, .val (.long m1), .second] [])) _
    refine XS.iconst X5.here hx rfl (hb hby at_93) ?_
    show Steps p.tables e below (T5.setTop (mkF m 94 #[.val (.long p0), .second, .val (.int p1), .val (.long p2), .second, .val (.int p3), .val (.double xq), .second, .val (.long r), .second, .val (.long (1125899906842624 : Int64)), .second, .val (.long m1), .second] [(.int (1 : Int32))])) _
    refine XS.goto X5.here hx rfl (pc0 := 94) (pc' := 98) rfl (hb hby at_94) (by decide) (by decide) ?_
    show Steps p.tables e below (T5.setTop (mkF m 98 #[.val (.long p0), .second, .val (.int p1), .val (.long p2), .second, .val (.int p3), .val (.double xq), .second, .val (.long r), .second, .val (.long (1125899906842624 : Int64)), .second, .val (.long m1), .second] [(.int (1 : Int32))])) _
    exact retN X5 hx (t := .boolean) Bd.returns (by simp) (hb hby at_98) hr
  · show Q0 n0 _ T5.heap _
    rw [e5]
    exact ⟨rfl, N5⟩
set_option maxRecDepth 65536 in
set_option maxHeartbeats 40000000 in
theorem rm0BF (l : Launch) (Z : State) (a0 : Array Value) (hw : ∀ d ∈ tables_1, d.before a0 Z = true) (ws : List Jvm.Cond) (p0 : Int64) (p1 : Int32) (p2 : Int64) (p3 : Int32) (y : UInt64) (xq : UInt64) (r : Int64) (m3 : Int64) (m2 : Int64) (m1 : Int64) (h0 : Heap) (n0 : Nat) (Z0 : n0 ≤ h0.size) (nn9 : Jvm.Free.Fl.NoNaN64 (FP.ddiv (FP.l2d p0) (FP.i2d ((p1 &&& (4194303 : Int32)) + (1 : Int32))))) (hq9 : (FP.ddiv (FP.l2d p0) (FP.i2d ((p1 &&& (4194303 : Int32)) + (1 : Int32)))) = xq) (nn4_14 : Jvm.Free.Fl.NoNaN64 (FP.dmul xq (4696837146684686336 : UInt64))) (hq4_14 : (FP.dmul xq (4696837146684686336 : UInt64)) = y) (hc31_5_14 : ¬ ((lcmpW (((1074 : Int64) - (((y.toInt64) &&& (9218868437227405312 : Int64)) >>> ((52 : Int32) &&& 0x3f).toInt64)) &&& (-64 : Int64)) (0 : Int64)) = (0 : Int32))) (hv14 : (FP.d2l y) = r) (hj_m3 : (if (lcmpW r (1125899906842624 : Int64)) < (0 : Int32) then (r + (((p3 >>> ((1 : Int32) &&& 31)) % (3 : Int32)).toInt64)) else (p2 % (2251799813685248 : Int64))) = m3) (hj_m2 : (if (0 : Int32) < (lcmpW r (-(1125899906842624 : Int64))) then m3 else (p2 % (2251799813685248 : Int64))) = m2) (hj_m1 : (if (p3 &&& (1 : Int32)) = (0 : Int32) then (p2 % (2251799813685248 : Int64)) else m2) = m1) (nn4_74 : Jvm.Free.Fl.NoNaN64 (FP.dmul xq (4696837146684686336 : UInt64))) (hq4_74 : (FP.dmul xq (4696837146684686336 : UInt64)) = y) (nn10_74 : Jvm.Free.Fl.NoNaN64 (FP.dsub (FP.l2d m1) (4602678819172646912 : UInt64))) (hc12_74 : ¬ ((cmpValue (FP.dcmp y (FP.dsub (FP.l2d m1) (4602678819172646912 : UInt64))) .g) < (0 : Int32))) (hc82 : ¬ ((lcmpW r m1) < (0 : Int32))) :
    MetFree l x (head1 (Jvm.Cond.code x code maxLocals ret :: ws) room_1) (fun a U => a = #[(.long p0), (.int p1), (.long p2), (.int p3)] ∧ Z.Warmed39 U.vm ∧ U.heap = h0) (fun _ _ _ _ _ => True) (fun _ U o U' => ∃ v L, o = .returned v ∧ Q0 n0 v U'.heap L ∧ FrameEnd U o U' L room_1.cells room_1.slots) := by
  refine MetFree.of_bodySF (plainFor_of_name pn_com_example_nelira_nelira_index_MillionthsRoundsBelowPinLaw) hisR ?_
  intro p e s m args below meth c s₁ Bd hml0 hP hK
  obtain ⟨rfl, hZ, hh⟩ := hP
  have hx := Bd.exec
  have hby := Bd.bytes
  have hml : c.maxLocals = 14 := hml0
  have hown : s.vm.findClass "com/example/nelira/nelira/index/MillionthsRoundsBelowPinLaw" = some m.cls := findClass_of_methodNamed Bd.named
  have hnm := (name_of_methodNamed Bd.named Bd.method).1
  have X0 : Stand p l e room_1 s m #[(.long p0), (.int p1), (.long p2), (.int p3)] below meth c s₁ [] 0 0 := Stand.of_body Bd
  have e0 : s₁.heap = h0 := by rw [← hh, Bd.state]; rfl
  have N0 := Fr.nil n0
  have pre0 : ∀ t, Steps p.tables e below (s₁.setTop (mkF m 0 #[.val (.long p0), .second, .val (.int p1), .val (.long p2), .second, .val (.int p3), .unset, .unset, .unset, .unset, .unset, .unset, .unset, .unset] [])) t → Steps p.tables e below (s₁.setTop (entryFrame m #[(.long p0), (.int p1), (.long p2), (.int p3)] maxLocals)) t := fun t k => castTop (ef_0_JIJI m p0 p1 p2 p3) k
  obtain ⟨_, _, ⟨T1, L1, k1, n1⟩, -, X1, ⟨Lc1, hQ1, l1, y1, z1⟩, st1⟩ := Jvm.LawKit.callS X0 hx (y := (⟨"com/example/nelira/nelira/index/Millionths", "round", "(D)J"⟩ : MethodName)) hown (mvT hZ (hw _ (List.mem_of_getElem? (i := 1) rfl))) (mvT hZ (hw _ (List.mem_of_getElem? (i := 2) rfl))) (mvT hZ (hw _ (List.mem_of_getElem? (i := 3) rfl))) (mvT hZ (hw _ (List.mem_of_getElem? (i := 4) rfl))) (by decide) (backOf (W := 0) (mrB l Z a0 hw [] xq y h0 n0 Z0 nn4_14 hq4_14 hc31_5_14) hZ (hw _ (List.mem_of_getElem? (i := 4) rfl)) (hw _ (List.mem_of_getElem? (i := 3) rfl)) (by decide) (by decide)) (g := (mkF m 14 #[.val (.long p0), .second, .val (.int p1), .val (.long p2), .second, .val (.int p3), .val (.double xq), .second, .unset, .unset, .unset, .unset, .unset, .unset] [(.double xq)])) rfl (by rw [hml]; rfl) (argsL := [(.double xq)]) (rest := []) (lenOf pd_0 rfl) rfl (by show 2 * 0 + _ ≤ _; exact Nat.le_of_eq rfl) (hb hby at_14) (fun _ _ => ⟨rfl, e0, (by decide : 0 + 0 ≤ _), (by decide : 0 + 0 ≤ _)⟩)
  dsimp only [Pt.U, Pt.locs, Pt.cells, Pt.slots] at X1 l1 y1 z1 st1 hQ1
  subst l1 y1 z1
  obtain ⟨rfl, N1q, eh1⟩ := hQ1
  have N1 := Fr.app N0 N1q
  have e1 : T1.heap = h0 := eh1
  have jn2 : ∀ target, Steps p.tables e below (T1.setTop (mkF m 70 #[.val (.long p0), .second, .val (.int p1), .val (.long p2), .second, .val (.int p3), .val (.double xq), .second, .val (.long r), .second, .val (.long (1125899906842624 : Int64)), .second, .val (.long m3), .second] [])) target → Steps p.tables e below (T1.setTop (mkF m 45 #[.val (.long p0), .second, .val (.int p1), .val (.long p2), .second, .val (.int p3), .val (.double xq), .second, .val (.long r), .second, .val (.long (1125899906842624 : Int64)), .second, .unset, .unset] [(.int (lcmpW r (1125899906842624 : Int64)))])) target := by
    intro target kt
    by_cases hq : (lcmpW r (1125899906842624 : Int64)) < (0 : Int32)
    · rw [if_pos hq] at hj_m3; subst hj_m3
      show Steps p.tables e below (T1.setTop (mkF m 45 #[.val (.long p0), .second, .val (.int p1), .val (.long p2), .second, .val (.int p3), .val (.double xq), .second, .val (.long r), .second, .val (.long (1125899906842624 : Int64)), .second, .unset, .unset] [(.int (lcmpW r (1125899906842624 : Int64)))])) _
      refine XS.ifNo X1.here hx rfl (hb hby at_45) rfl ((if0 _ _).trans (tlt hq).2.1) ?_
      show Steps p.tables e below (T1.setTop (mkF m 48 #[.val (.long p0), .second, .val (.int p1), .val (.long p2), .second, .val (.int p3), .val (.double xq), .second, .val (.long r), .second, .val (.long (1125899906842624 : Int64)), .second, .unset, .unset] [])) _
      refine XS.lload X1.here hx rfl (hb hby at_48) rfl ?_
      show Steps p.tables e below (T1.setTop (mkF m 50 #[.val (.long p0), .second, .val (.int p1), .val (.long p2), .second, .val (.int p3), .val (.double xq), .second, .val (.long r), .second, .val (.long (1125899906842624 : Int64)), .second, .unset, .unset] [(.long r)])) _
      refine XS.iload X1.here hx rfl (hb hby at_50) rfl ?_
      show Steps p.tables e below (T1.setTop (mkF m 52 #[.val (.long p0), .second, .val (.int p1), .val (.long p2), .second, .val (.int p3), .val (.double xq), .second, .val (.long r), .second, .val (.long (1125899906842624 : Int64)), .second, .unset, .unset] [(.int p3), (.long r)])) _
      refine XS.iconst X1.here hx rfl (hb hby at_52) ?_
      show Steps p.tables e below (T1.setTop (mkF m 53 #[.val (.long p0), .second, .val (.int p1), .val (.long p2), .second, .val (.int p3), .val (.double xq), .second, .val (.long r), .second, .val (.long (1125899906842624 : Int64)), .second, .unset, .unset] [(.int (1 : Int32)), (.int p3), (.long r)])) _
      refine XS.ishr X1.here hx rfl (hb hby at_53) rfl ?_
      show Steps p.tables e below (T1.setTop (mkF m 54 #[.val (.long p0), .second, .val (.int p1), .val (.long p2), .second, .val (.int p3), .val (.double xq), .second, .val (.long r), .second, .val (.long (1125899906842624 : Int64)), .second, .unset, .unset] [(.int (p3 >>> ((1 : Int32) &&& 31))), (.long r)])) _
      refine XS.iconst X1.here hx rfl (hb hby at_54) ?_
      show Steps p.tables e below (T1.setTop (mkF m 55 #[.val (.long p0), .second, .val (.int p1), .val (.long p2), .second, .val (.int p3), .val (.double xq), .second, .val (.long r), .second, .val (.long (1125899906842624 : Int64)), .second, .unset, .unset] [(.int (3 : Int32)), (.int (p3 >>> ((1 : Int32) &&& 31))), (.long r)])) _
      refine iremM (g := (mkF m 55 #[.val (.long p0), .second, .val (.int p1), .val (.long p2), .second, .val (.int p3), .val (.double xq), .second, .val (.long r), .second, .val (.long (1125899906842624 : Int64)), .second, .unset, .unset] [(.int (3 : Int32)), (.int (p3 >>> ((1 : Int32) &&& 31))), (.long r)])) X1 hx rfl (hb hby at_55) rfl (by decide) ?_
      show Steps p.tables e below (T1.setTop (mkF m 56 #[.val (.long p0), .second, .val (.int p1), .val (.long p2), .second, .val (.int p3), .val (.double xq), .second, .val (.long r), .second, .val (.long (1125899906842624 : Int64)), .second, .unset, .unset] [(.int ((p3 >>> ((1 : Int32) &&& 31)) % (3 : Int32))), (.long r)])) _
      refine XS.i2l X1.here hx rfl (hb hby at_56) rfl ?_
      show Steps p.tables e below (T1.setTop (mkF m 57 #[.val (.long p0), .second, .val (.int p1), .val (.long p2), .second, .val (.int p3), .val (.double xq), .second, .val (.long r), .second, .val (.long (1125899906842624 : Int64)), .second, .unset, .unset] [(.long (((p3 >>> ((1 : Int32) &&& 31)) % (3 : Int32)).toInt64)), (.long r)])) _
      refine XS.ladd X1.here hx rfl (hb hby at_57) rfl ?_
      show Steps p.tables e below (T1.setTop (mkF m 58 #[.val (.long p0), .second, .val (.int p1), .val (.long p2), .second, .val (.int p3), .val (.double xq), .second, .val (.long r), .second, .val (.long (1125899906842624 : Int64)), .second, .unset, .unset] [(.long (r + (((p3 >>> ((1 : Int32) &&& 31)) % (3 : Int32)).toInt64)))])) _
      refine XS.lstore X1.here hx rfl (hb hby at_58) rfl (l' := #[.val (.long p0), .second, .val (.int p1), .val (.long p2), .second, .val (.int p3), .val (.double xq), .second, .val (.long r), .second, .val (.long (1125899906842624 : Int64)), .second, .val (.long (r + (((p3 >>> ((1 : Int32) &&& 31)) % (3 : Int32)).toInt64))), .second]) rfl ?_
      show Steps p.tables e below (T1.setTop (mkF m 60 #[.val (.long p0), .second, .val (.int p1), .val (.long p2), .second, .val (.int p3), .val (.double xq), .second, .val (.long r), .second, .val (.long (1125899906842624 : Int64)), .second, .val (.long (r + (((p3 >>> ((1 : Int32) &&& 31)) % (3 : Int32)).toInt64))), .second] [])) _
      refine XS.goto X1.here hx rfl (pc0 := 60) (pc' := 70) rfl (hb hby at_60) (by decide) (by decide) ?_
      show Steps p.tables e below (T1.setTop (mkF m 70 #[.val (.long p0), .second, .val (.int p1), .val (.long p2), .second, .val (.int p3), .val (.double xq), .second, .val (.long r), .second, .val (.long (1125899906842624 : Int64)), .second, .val (.long (r + (((p3 >>> ((1 : Int32) &&& 31)) % (3 : Int32)).toInt64))), .second] [])) _
      exact kt
    · rw [if_neg hq] at hj_m3; subst hj_m3
      show Steps p.tables e below (T1.setTop (mkF m 45 #[.val (.long p0), .second, .val (.int p1), .val (.long p2), .second, .val (.int p3), .val (.double xq), .second, .val (.long r), .second, .val (.long (1125899906842624 : Int64)), .second, .unset, .unset] [(.int (lcmpW r (1125899906842624 : Int64)))])) _
      refine XS.ifYes X1.here hx rfl (pc0 := 45) (pc' := 63) rfl (hb hby at_45) rfl ((if0 _ _).trans (flt hq).2.1) (by decide) (by decide) ?_
      show Steps p.tables e below (T1.setTop (mkF m 63 #[.val (.long p0), .second, .val (.int p1), .val (.long p2), .second, .val (.int p3), .val (.double xq), .second, .val (.long r), .second, .val (.long (1125899906842624 : Int64)), .second, .unset, .unset] [])) _
      refine XS.lloadN X1.here hx rfl (hb hby at_63) rfl ?_
      show Steps p.tables e below (T1.setTop (mkF m 64 #[.val (.long p0), .second, .val (.int p1), .val (.long p2), .second, .val (.int p3), .val (.double xq), .second, .val (.long r), .second, .val (.long (1125899906842624 : Int64)), .second, .unset, .unset] [(.long p2)])) _
      refine X1.ldc2Long hx hown (mvT hZ (hw _ (List.mem_of_getElem? (i := 20) rfl))) (g := (mkF m 64 #[.val (.long p0), .second, .val (.int p1), .val (.long p2), .second, .val (.int p3), .val (.double xq), .second, .val (.long r), .second, .val (.long (1125899906842624 : Int64)), .second, .unset, .unset] [(.long p2)])) rfl (hb hby at_64) _ ?_
      show Steps p.tables e below (T1.setTop (mkF m 67 #[.val (.long p0), .second, .val (.int p1), .val (.long p2), .second, .val (.int p3), .val (.double xq), .second, .val (.long r), .second, .val (.long (1125899906842624 : Int64)), .second, .unset, .unset] [(.long (2251799813685248 : Int64)), (.long p2)])) _
      refine own_lremM (g := (mkF m 67 #[.val (.long p0), .second, .val (.int p1), .val (.long p2), .second, .val (.int p3), .val (.double xq), .second, .val (.long r), .second, .val (.long (1125899906842624 : Int64)), .second, .unset, .unset] [(.long (2251799813685248 : Int64)), (.long p2)])) X1 hx rfl (hb hby at_67) rfl (by decide) ?_
      show Steps p.tables e below (T1.setTop (mkF m 68 #[.val (.long p0), .second, .val (.int p1), .val (.long p2), .second, .val (.int p3), .val (.double xq), .second, .val (.long r), .second, .val (.long (1125899906842624 : Int64)), .second, .unset, .unset] [(.long (p2 % (2251799813685248 : Int64)))])) _
      refine XS.lstore X1.here hx rfl (hb hby at_68) rfl (l' := #[.val (.long p0), .second, .val (.int p1), .val (.long p2), .second, .val (.int p3), .val (.double xq), .second, .val (.long r), .second, .val (.long (1125899906842624 : Int64)), .second, .val (.long (p2 % (2251799813685248 : Int64))), .second]) rfl ?_
      show Steps p.tables e below (T1.setTop (mkF m 70 #[.val (.long p0), .second, .val (.int p1), .val (.long p2), .second, .val (.int p3), .val (.double xq), .second, .val (.long r), .second, .val (.long (1125899906842624 : Int64)), .second, .val (.long (p2 % (2251799813685248 : Int64))), .second] [])) _
      exact kt
  have jn3 : ∀ target, Steps p.tables e below (T1.setTop (mkF m 70 #[.val (.long p0), .second, .val (.int p1), .val (.long p2), .second, .val (.int p3), .val (.double xq), .second, .val (.long r), .second, .val (.long (1125899906842624 : Int64)), .second, .val (.long m2), .second] [])) target → Steps p.tables e below (T1.setTop (mkF m 37 #[.val (.long p0), .second, .val (.int p1), .val (.long p2), .second, .val (.int p3), .val (.double xq), .second, .val (.long r), .second, .val (.long (1125899906842624 : Int64)), .second, .unset, .unset] [(.int (lcmpW r (-(1125899906842624 : Int64))))])) target := by
    intro target kt
    by_cases hq : (0 : Int32) < (lcmpW r (-(1125899906842624 : Int64)))
    · rw [if_pos hq] at hj_m2; subst hj_m2
      show Steps p.tables e below (T1.setTop (mkF m 37 #[.val (.long p0), .second, .val (.int p1), .val (.long p2), .second, .val (.int p3), .val (.double xq), .second, .val (.long r), .second, .val (.long (1125899906842624 : Int64)), .second, .unset, .unset] [(.int (lcmpW r (-(1125899906842624 : Int64))))])) _
      refine XS.ifNo X1.here hx rfl (hb hby at_37) rfl ((if0 _ _).trans (tlt hq).2.2.2) ?_
      show Steps p.tables e below (T1.setTop (mkF m 40 #[.val (.long p0), .second, .val (.int p1), .val (.long p2), .second, .val (.int p3), .val (.double xq), .second, .val (.long r), .second, .val (.long (1125899906842624 : Int64)), .second, .unset, .unset] [])) _
      refine XS.lload X1.here hx rfl (hb hby at_40) rfl ?_
      show Steps p.tables e below (T1.setTop (mkF m 42 #[.val (.long p0), .second, .val (.int p1), .val (.long p2), .second, .val (.int p3), .val (.double xq), .second, .val (.long r), .second, .val (.long (1125899906842624 : Int64)), .second, .unset, .unset] [(.long r)])) _
      refine XS.lload X1.here hx rfl (hb hby at_42) rfl ?_
      show Steps p.tables e below (T1.setTop (mkF m 44 #[.val (.long p0), .second, .val (.int p1), .val (.long p2), .second, .val (.int p3), .val (.double xq), .second, .val (.long r), .second, .val (.long (1125899906842624 : Int64)), .second, .unset, .unset] [(.long (1125899906842624 : Int64)), (.long r)])) _
      refine XS.lcmp X1.here hx rfl (hb hby at_44) rfl ?_
      show Steps p.tables e below (T1.setTop (mkF m 45 #[.val (.long p0), .second, .val (.int p1), .val (.long p2), .second, .val (.int p3), .val (.double xq), .second, .val (.long r), .second, .val (.long (1125899906842624 : Int64)), .second, .unset, .unset] [(.int (lcmpW r (1125899906842624 : Int64)))])) _
      refine jn2 _ ?_
      show Steps p.tables e below (T1.setTop (mkF m 70 #[.val (.long p0), .second, .val (.int p1), .val (.long p2), .second, .val (.int p3), .val (.double xq), .second, .val (.long r), .second, .val (.long (1125899906842624 : Int64)), .second, .val (.long m3), .second] [])) _
      exact kt
    · rw [if_neg hq] at hj_m2; subst hj_m2
      show Steps p.tables e below (T1.setTop (mkF m 37 #[.val (.long p0), .second, .val (.int p1), .val (.long p2), .second, .val (.int p3), .val (.double xq), .second, .val (.long r), .second, .val (.long (1125899906842624 : Int64)), .second, .unset, .unset] [(.int (lcmpW r (-(1125899906842624 : Int64))))])) _
      refine XS.ifYes X1.here hx rfl (pc0 := 37) (pc' := 63) rfl (hb hby at_37) rfl ((if0 _ _).trans (flt hq).2.2.2) (by decide) (by decide) ?_
      show Steps p.tables e below (T1.setTop (mkF m 63 #[.val (.long p0), .second, .val (.int p1), .val (.long p2), .second, .val (.int p3), .val (.double xq), .second, .val (.long r), .second, .val (.long (1125899906842624 : Int64)), .second, .unset, .unset] [])) _
      refine XS.lloadN X1.here hx rfl (hb hby at_63) rfl ?_
      show Steps p.tables e below (T1.setTop (mkF m 64 #[.val (.long p0), .second, .val (.int p1), .val (.long p2), .second, .val (.int p3), .val (.double xq), .second, .val (.long r), .second, .val (.long (1125899906842624 : Int64)), .second, .unset, .unset] [(.long p2)])) _
      refine X1.ldc2Long hx hown (mvT hZ (hw _ (List.mem_of_getElem? (i := 20) rfl))) (g := (mkF m 64 #[.val (.long p0), .second, .val (.int p1), .val (.long p2), .second, .val (.int p3), .val (.double xq), .second, .val (.long r), .second, .val (.long (1125899906842624 : Int64)), .second, .unset, .unset] [(.long p2)])) rfl (hb hby at_64) _ ?_
      show Steps p.tables e below (T1.setTop (mkF m 67 #[.val (.long p0), .second, .val (.int p1), .val (.long p2), .second, .val (.int p3), .val (.double xq), .second, .val (.long r), .second, .val (.long (1125899906842624 : Int64)), .second, .unset, .unset] [(.long (2251799813685248 : Int64)), (.long p2)])) _
      refine own_lremM (g := (mkF m 67 #[.val (.long p0), .second, .val (.int p1), .val (.long p2), .second, .val (.int p3), .val (.double xq), .second, .val (.long r), .second, .val (.long (1125899906842624 : Int64)), .second, .unset, .unset] [(.long (2251799813685248 : Int64)), (.long p2)])) X1 hx rfl (hb hby at_67) rfl (by decide) ?_
      show Steps p.tables e below (T1.setTop (mkF m 68 #[.val (.long p0), .second, .val (.int p1), .val (.long p2), .second, .val (.int p3), .val (.double xq), .second, .val (.long r), .second, .val (.long (1125899906842624 : Int64)), .second, .unset, .unset] [(.long (p2 % (2251799813685248 : Int64)))])) _
      refine XS.lstore X1.here hx rfl (hb hby at_68) rfl (l' := #[.val (.long p0), .second, .val (.int p1), .val (.long p2), .second, .val (.int p3), .val (.double xq), .second, .val (.long r), .second, .val (.long (1125899906842624 : Int64)), .second, .val (.long (p2 % (2251799813685248 : Int64))), .second]) rfl ?_
      show Steps p.tables e below (T1.setTop (mkF m 70 #[.val (.long p0), .second, .val (.int p1), .val (.long p2), .second, .val (.int p3), .val (.double xq), .second, .val (.long r), .second, .val (.long (1125899906842624 : Int64)), .second, .val (.long (p2 % (2251799813685248 : Int64))), .second] [])) _
      exact kt
  have jn4 : ∀ target, Steps p.tables e below (T1.setTop (mkF m 70 #[.val (.long p0), .second, .val (.int p1), .val (.long p2), .second, .val (.int p3), .val (.double xq), .second, .val (.long r), .second, .val (.long (1125899906842624 : Int64)), .second, .val (.long m1), .second] [])) target → Steps p.tables e below (T1.setTop (mkF m 28 #[.val (.long p0), .second, .val (.int p1), .val (.long p2), .second, .val (.int p3), .val (.double xq), .second, .val (.long r), .second, .val (.long (1125899906842624 : Int64)), .second, .unset, .unset] [(.int (p3 &&& (1 : Int32)))])) target := by
    intro target kt
    by_cases hq : (p3 &&& (1 : Int32)) = (0 : Int32)
    · rw [if_pos hq] at hj_m1; subst hj_m1
      show Steps p.tables e below (T1.setTop (mkF m 28 #[.val (.long p0), .second, .val (.int p1), .val (.long p2), .second, .val (.int p3), .val (.double xq), .second, .val (.long r), .second, .val (.long (1125899906842624 : Int64)), .second, .unset, .unset] [(.int (p3 &&& (1 : Int32)))])) _
      refine XS.ifYes X1.here hx rfl (pc0 := 28) (pc' := 63) rfl (hb hby at_28) rfl ((if0 _ _).trans (teq hq).1) (by decide) (by decide) ?_
      show Steps p.tables e below (T1.setTop (mkF m 63 #[.val (.long p0), .second, .val (.int p1), .val (.long p2), .second, .val (.int p3), .val (.double xq), .second, .val (.long r), .second, .val (.long (1125899906842624 : Int64)), .second, .unset, .unset] [])) _
      refine XS.lloadN X1.here hx rfl (hb hby at_63) rfl ?_
      show Steps p.tables e below (T1.setTop (mkF m 64 #[.val (.long p0), .second, .val (.int p1), .val (.long p2), .second, .val (.int p3), .val (.double xq), .second, .val (.long r), .second, .val (.long (1125899906842624 : Int64)), .second, .unset, .unset] [(.long p2)])) _
      refine X1.ldc2Long hx hown (mvT hZ (hw _ (List.mem_of_getElem? (i := 20) rfl))) (g := (mkF m 64 #[.val (.long p0), .second, .val (.int p1), .val (.long p2), .second, .val (.int p3), .val (.double xq), .second, .val (.long r), .second, .val (.long (1125899906842624 : Int64)), .second, .unset, .unset] [(.long p2)])) rfl (hb hby at_64) _ ?_
      show Steps p.tables e below (T1.setTop (mkF m 67 #[.val (.long p0), .second, .val (.int p1), .val (.long p2), .second, .val (.int p3), .val (.double xq), .second, .val (.long r), .second, .val (.long (1125899906842624 : Int64)), .second, .unset, .unset] [(.long (2251799813685248 : Int64)), (.long p2)])) _
      refine own_lremM (g := (mkF m 67 #[.val (.long p0), .second, .val (.int p1), .val (.long p2), .second, .val (.int p3), .val (.double xq), .second, .val (.long r), .second, .val (.long (1125899906842624 : Int64)), .second, .unset, .unset] [(.long (2251799813685248 : Int64)), (.long p2)])) X1 hx rfl (hb hby at_67) rfl (by decide) ?_
      show Steps p.tables e below (T1.setTop (mkF m 68 #[.val (.long p0), .second, .val (.int p1), .val (.long p2), .second, .val (.int p3), .val (.double xq), .second, .val (.long r), .second, .val (.long (1125899906842624 : Int64)), .second, .unset, .unset] [(.long (p2 % (2251799813685248 : Int64)))])) _
      refine XS.lstore X1.here hx rfl (hb hby at_68) rfl (l' := #[.val (.long p0), .second, .val (.int p1), .val (.long p2), .second, .val (.int p3), .val (.double xq), .second, .val (.long r), .second, .val (.long (1125899906842624 : Int64)), .second, .val (.long (p2 % (2251799813685248 : Int64))), .second]) rfl ?_
      show Steps p.tables e below (T1.setTop (mkF m 70 #[.val (.long p0), .second, .val (.int p1), .val (.long p2), .second, .val (.int p3), .val (.double xq), .second, .val (.long r), .second, .val (.long (1125899906842624 : Int64)), .second, .val (.long (p2 % (2251799813685248 : Int64))), .second] [])) _
      exact kt
    · rw [if_neg hq] at hj_m1; subst hj_m1
      show Steps p.tables e below (T1.setTop (mkF m 28 #[.val (.long p0), .second, .val (.int p1), .val (.long p2), .second, .val (.int p3), .val (.double xq), .second, .val (.long r), .second, .val (.long (1125899906842624 : Int64)), .second, .unset, .unset] [(.int (p3 &&& (1 : Int32)))])) _
      refine XS.ifNo X1.here hx rfl (hb hby at_28) rfl ((if0 _ _).trans (feq hq).1) ?_
      show Steps p.tables e below (T1.setTop (mkF m 31 #[.val (.long p0), .second, .val (.int p1), .val (.long p2), .second, .val (.int p3), .val (.double xq), .second, .val (.long r), .second, .val (.long (1125899906842624 : Int64)), .second, .unset, .unset] [])) _
      refine XS.lload X1.here hx rfl (hb hby at_31) rfl ?_
      show Steps p.tables e below (T1.setTop (mkF m 33 #[.val (.long p0), .second, .val (.int p1), .val (.long p2), .second, .val (.int p3), .val (.double xq), .second, .val (.long r), .second, .val (.long (1125899906842624 : Int64)), .second, .unset, .unset] [(.long r)])) _
      refine XS.lload X1.here hx rfl (hb hby at_33) rfl ?_
      show Steps p.tables e below (T1.setTop (mkF m 35 #[.val (.long p0), .second, .val (.int p1), .val (.long p2), .second, .val (.int p3), .val (.double xq), .second, .val (.long r), .second, .val (.long (1125899906842624 : Int64)), .second, .unset, .unset] [(.long (1125899906842624 : Int64)), (.long r)])) _
      refine XS.lneg X1.here hx rfl (hb hby at_35) rfl ?_
      show Steps p.tables e below (T1.setTop (mkF m 36 #[.val (.long p0), .second, .val (.int p1), .val (.long p2), .second, .val (.int p3), .val (.double xq), .second, .val (.long r), .second, .val (.long (1125899906842624 : Int64)), .second, .unset, .unset] [(.long (-(1125899906842624 : Int64))), (.long r)])) _
      refine XS.lcmp X1.here hx rfl (hb hby at_36) rfl ?_
      show Steps p.tables e below (T1.setTop (mkF m 37 #[.val (.long p0), .second, .val (.int p1), .val (.long p2), .second, .val (.int p3), .val (.double xq), .second, .val (.long r), .second, .val (.long (1125899906842624 : Int64)), .second, .unset, .unset] [(.int (lcmpW r (-(1125899906842624 : Int64))))])) _
      refine jn3 _ ?_
      show Steps p.tables e below (T1.setTop (mkF m 70 #[.val (.long p0), .second, .val (.int p1), .val (.long p2), .second, .val (.int p3), .val (.double xq), .second, .val (.long r), .second, .val (.long (1125899906842624 : Int64)), .second, .val (.long m2), .second] [])) _
      exact kt
  obtain ⟨_, _, ⟨T5, L5, k5, n5⟩, -, X5, ⟨Lc5, hQ5, l5, y5, z5⟩, st5⟩ := Jvm.LawKit.callS X1 hx (y := (⟨"com/example/nelira/nelira/index/Millionths", "roundsBelow", "(DJ)Z"⟩ : MethodName)) hown (mvT hZ (hw _ (List.mem_of_getElem? (i := 21) rfl))) (mvT hZ (hw _ (List.mem_of_getElem? (i := 22) rfl))) (mvT hZ (hw _ (List.mem_of_getElem? (i := 3) rfl))) (mvT hZ (hw _ (List.mem_of_getElem? (i := 23) rfl))) (by decide) (backOf (W := 0) (rbF l Z a0 hw [] xq m1 y h0 n0 Z0 nn4_74 hq4_74 nn10_74 hc12_74) hZ (hw _ (List.mem_of_getElem? (i := 23) rfl)) (hw _ (List.mem_of_getElem? (i := 3) rfl)) (by decide) (by decide)) (g := (mkF m 74 #[.val (.long p0), .second, .val (.int p1), .val (.long p2), .second, .val (.int p3), .val (.double xq), .second, .val (.long r), .second, .val (.long (1125899906842624 : Int64)), .second, .val (.long m1), .second] [(.long m1), (.double xq)])) rfl (by rw [hml]; rfl) (argsL := [(.double xq), (.long m1)]) (rest := []) (lenOf pd_1 rfl) rfl (by show 2 * 0 + _ ≤ _; exact Nat.le_of_eq rfl) (hb hby at_74) (fun _ _ => ⟨rfl, e1, (by decide : 0 + 0 ≤ _), (by decide : 0 + 0 ≤ _)⟩)
  dsimp only [Pt.U, Pt.locs, Pt.cells, Pt.slots] at X5 l5 y5 z5 st5 hQ5
  subst l5 y5 z5
  obtain ⟨rfl, N5q, eh5⟩ := hQ5
  have N5 := Fr.app N1 N5q
  have e5 : T5.heap = h0 := eh5
  obtain ⟨fs, hr, hrun, hended, hW, hsame⟩ := X5.leave (v := some (.int (1 : Int32))) (fun h => by rw [Bd.returns] at h; cases h)
  refine ⟨_, _, pre0 _ ?_, hrun, hended, _, _, rfl, ?_, ⟨_, rfl⟩, hW, hsame.mono (by decide) (by decide)⟩
  · show Steps p.tables e below (s₁.setTop (mkF m 0 #[.val (.long p0), .second, .val (.int p1), .val (.long p2), .second, .val (.int p3), .unset, .unset, .unset, .unset, .unset, .unset, .unset, .unset] [])) _
    refine XS.lloadN X0.here hx rfl (hb hby at_0) rfl ?_
    show Steps p.tables e below (s₁.setTop (mkF m 1 #[.val (.long p0), .second, .val (.int p1), .val (.long p2), .second, .val (.int p3), .unset, .unset, .unset, .unset, .unset, .unset, .unset, .unset] [(.long p0)])) _
    refine XS.l2dS X0.here hx rfl (hb hby at_1) rfl (v := (FP.l2d p0)) rfl ?_
    show Steps p.tables e below (s₁.setTop (mkF m 2 #[.val (.long p0), .second, .val (.int p1), .val (.long p2), .second, .val (.int p3), .unset, .unset, .unset, .unset, .unset, .unset, .unset, .unset] [(.double (FP.l2d p0))])) _
    refine XS.iloadN X0.here hx rfl (hb hby at_2) rfl ?_
    show Steps p.tables e below (s₁.setTop (mkF m 3 #[.val (.long p0), .second, .val (.int p1), .val (.long p2), .second, .val (.int p3), .unset, .unset, .unset, .unset, .unset, .unset, .unset, .unset] [(.int p1), (.double (FP.l2d p0))])) _
    refine X0.ldcInt hx hown (mvT hZ (hw _ (List.mem_of_getElem? (i := 0) rfl))) (g := (mkF m 3 #[.val (.long p0), .second, .val (.int p1), .val (.long p2), .second, .val (.int p3), .unset, .unset, .unset, .unset, .unset, .unset, .unset, .unset] [(.int p1), (.double (FP.l2d p0))])) rfl (hb hby at_3) _ ?_
    show Steps p.tables e below (s₁.setTop (mkF m 5 #[.val (.long p0), .second, .val (.int p1), .val (.long p2), .second, .val (.int p3), .unset, .unset, .unset, .unset, .unset, .unset, .unset, .unset] [(.int (4194303 : Int32)), (.int p1), (.double (FP.l2d p0))])) _
    refine XS.iand X0.here hx rfl (hb hby at_5) rfl ?_
    show Steps p.tables e below (s₁.setTop (mkF m 6 #[.val (.long p0), .second, .val (.int p1), .val (.long p2), .second, .val (.int p3), .unset, .unset, .unset, .unset, .unset, .unset, .unset, .unset] [(.int (p1 &&& (4194303 : Int32))), (.double (FP.l2d p0))])) _
    refine XS.iconst X0.here hx rfl (hb hby at_6) ?_
    show Steps p.tables e below (s₁.setTop (mkF m 7 #[.val (.long p0), .second, .val (.int p1), .val (.long p2), .second, .val (.int p3), .unset, .unset, .unset, .unset, .unset, .unset, .unset, .unset] [(.int (1 : Int32)), (.int (p1 &&& (4194303 : Int32))), (.double (FP.l2d p0))])) _
    refine XS.iadd X0.here hx rfl (hb hby at_7) rfl ?_
    show Steps p.tables e below (s₁.setTop (mkF m 8 #[.val (.long p0), .second, .val (.int p1), .val (.long p2), .second, .val (.int p3), .unset, .unset, .unset, .unset, .unset, .unset, .unset, .unset] [(.int ((p1 &&& (4194303 : Int32)) + (1 : Int32))), (.double (FP.l2d p0))])) _
    refine XS.i2dS X0.here hx rfl (hb hby at_8) rfl (v := (FP.i2d ((p1 &&& (4194303 : Int32)) + (1 : Int32)))) rfl ?_
    show Steps p.tables e below (s₁.setTop (mkF m 9 #[.val (.long p0), .second, .val (.int p1), .val (.long p2), .second, .val (.int p3), .unset, .unset, .unset, .unset, .unset, .unset, .unset, .unset] [(.double (FP.i2d ((p1 &&& (4194303 : Int32)) + (1 : Int32)))), (.double (FP.l2d p0))])) _
    refine XS.ddivS X0.here hx rfl (hb hby at_9) rfl nn9 (v := xq) hq9 ?_
    show Steps p.tables e below (s₁.setTop (mkF m 10 #[.val (.long p0), .second, .val (.int p1), .val (.long p2), .second, .val (.int p3), .unset, .unset, .unset, .unset, .unset, .unset, .unset, .unset] [(.double xq)])) _
    refine XS.dstore X0.here hx rfl (hb hby at_10) rfl (l' := #[.val (.long p0), .second, .val (.int p1), .val (.long p2), .second, .val (.int p3), .val (.double xq), .second, .unset, .unset, .unset, .unset, .unset, .unset]) rfl ?_
    show Steps p.tables e below (s₁.setTop (mkF m 12 #[.val (.long p0), .second, .val (.int p1), .val (.long p2), .second, .val (.int p3), .val (.double xq), .second, .unset, .unset, .unset, .unset, .unset, .unset] [])) _
    refine XS.dload X0.here hx rfl (hb hby at_12) rfl ?_
    show Steps p.tables e below (s₁.setTop (mkF m 14 #[.val (.long p0), .second, .val (.int p1), .val (.long p2), .second, .val (.int p3), .val (.double xq), .second, .unset, .unset, .unset, .unset, .unset, .unset] [(.double xq)])) _
    refine st1 _ ?_
    show Steps p.tables e below (T1.setTop (mkF m 17 #[.val (.long p0), .second, .val (.int p1), .val (.long p2), .second, .val (.int p3), .val (.double xq), .second, .unset, .unset, .unset, .unset, .unset, .unset] [(.long (FP.d2l y))])) _
    rw [hv14]
    show Steps p.tables e below (T1.setTop (mkF m 17 #[.val (.long p0), .second, .val (.int p1), .val (.long p2), .second, .val (.int p3), .val (.double xq), .second, .unset, .unset, .unset, .unset, .unset, .unset] [(.long r)])) _
    refine XS.lstore X1.here hx rfl (hb hby at_17) rfl (l' := #[.val (.long p0), .second, .val (.int p1), .val (.long p2), .second, .val (.int p3), .val (.double xq), .second, .val (.long r), .second, .unset, .unset, .unset, .unset]) rfl ?_
    show Steps p.tables e below (T1.setTop (mkF m 19 #[.val (.long p0), .second, .val (.int p1), .val (.long p2), .second, .val (.int p3), .val (.double xq), .second, .val (.long r), .second, .unset, .unset, .unset, .unset] [])) _
    refine X1.ldc2Long hx hown (mvT hZ (hw _ (List.mem_of_getElem? (i := 19) rfl))) (g := (mkF m 19 #[.val (.long p0), .second, .val (.int p1), .val (.long p2), .second, .val (.int p3), .val (.double xq), .second, .val (.long r), .second, .unset, .unset, .unset, .unset] [])) rfl (hb hby at_19) _ ?_
    show Steps p.tables e below (T1.setTop (mkF m 22 #[.val (.long p0), .second, .val (.int p1), .val (.long p2), .second, .val (.int p3), .val (.double xq), .second, .val (.long r), .second, .unset, .unset, .unset, .unset] [(.long (1125899906842624 : Int64))])) _
    refine XS.lstore X1.here hx rfl (hb hby at_22) rfl (l' := #[.val (.long p0), .second, .val (.int p1), .val (.long p2), .second, .val (.int p3), .val (.double xq), .second, .val (.long r), .second, .val (.long (1125899906842624 : Int64)), .second, .unset, .unset]) rfl ?_
    show Steps p.tables e below (T1.setTop (mkF m 24 #[.val (.long p0), .second, .val (.int p1), .val (.long p2), .second, .val (.int p3), .val (.double xq), .second, .val (.long r), .second, .val (.long (1125899906842624 : Int64)), .second, .unset, .unset] [])) _
    refine XS.iload X1.here hx rfl (hb hby at_24) rfl ?_
    show Steps p.tables e below (T1.setTop (mkF m 26 #[.val (.long p0), .second, .val (.int p1), .val (.long p2), .second, .val (.int p3), .val (.double xq), .second, .val (.long r), .second, .val (.long (1125899906842624 : Int64)), .second, .unset, .unset] [(.int p3)])) _
    refine XS.iconst X1.here hx rfl (hb hby at_26) ?_
    show Steps p.tables e below (T1.setTop (mkF m 27 #[.val (.long p0), .second, .val (.int p1), .val (.long p2), .second, .val (.int p3), .val (.double xq), .second, .val (.long r), .second, .val (.long (1125899906842624 : Int64)), .second, .unset, .unset] [(.int (1 : Int32)), (.int p3)])) _
    refine XS.iand X1.here hx rfl (hb hby at_27) rfl ?_
    show Steps p.tables e below (T1.setTop (mkF m 28 #[.val (.long p0), .second, .val (.int p1), .val (.long p2), .second, .val (.int p3), .val (.double xq), .second, .val (.long r), .second, .val (.long (1125899906842624 : Int64)), .second, .unset, .unset] [(.int (p3 &&& (1 : Int32)))])) _
    refine jn4 _ ?_
    show Steps p.tables e below (T1.setTop (mkF m 70 #[.val (.long p0), .second, .val (.int p1), .val (.long p2), .second, .val (.int p3), .val (.double xq), .second, .val (.long r), .second, .val (.long (1125899906842624 : Int64)), .second, .val (.long m1), .second] [])) _
    refine XS.dload X1.here hx rfl (hb hby at_70) rfl ?_
    show Steps p.tables e below (T1.setTop (mkF m 72 #[.val (.long p0), .second, .val (.int p1), .val (.long p2), .second, .val (.int p3), .val (.double xq), .second, .val (.long r), .second, .val (.long (1125899906842624 : Int64)), .second, .val (.long m1), .second] [(.double xq)])) _
    refine XS.lload X1.here hx rfl (hb hby at_72) rfl ?_
    show Steps p.tables e below (T1.setTop (mkF m 74 #[.val (.long p0), .second, .val (.int p1), .val (.long p2), .second, .val (.int p3), .val (.double xq), .second, .val (.long r), .second, .val (.long (1125899906842624 : Int64)), .second, .val (.long m1), .second] [(.long m1), (.double xq)])) _
    refine st5 _ ?_
    show Steps p.tables e below (T5.setTop (mkF m 77 #[.val (.long p0), .second, .val (.int p1), .val (.long p2), .second, .val (.int p3), .val (.double xq), .second, .val (.long r), .second, .val (.long (1125899906842624 : Int64)), .second, .val (.long m1), .second] [(.int (0 : Int32))])) _
    refine XS.lload X5.here hx rfl (hb hby at_77) rfl ?_
    show Steps p.tables e below (T5.setTop (mkF m 79 #[.val (.long p0), .second, .val (.int p1), .val (.long p2), .second, .val (.int p3), .val (.double xq), .second, .val (.long r), .second, .val (.long (1125899906842624 : Int64)), .second, .val (.long m1), .second] [(.long r), (.int (0 : Int32))])) _
    refine XS.lload X5.here hx rfl (hb hby at_79) rfl ?_
    show Steps p.tables e below (T5.setTop (mkF m 81 #[.val (.long p0), .second, .val (.int p1), .val (.long p2), .second, .val (.int p3), .val (.double xq), .second, .val (.long r), .second, .val (.long (1125899906842624 : Int64)), .second, .val (.long m1), .second] [(.long m1), (.long r), (.int (0 : Int32))])) _
    refine XS.lcmp X5.here hx rfl (hb hby at_81) rfl ?_
    show Steps p.tables e below (T5.setTop (mkF m 82 #[.val (.long p0), .second, .val (.int p1), .val (.long p2), .second, .val (.int p3), .val (.double xq), .second, .val (.long r), .second, .val (.long (1125899906842624 : Int64)), .second, .val (.long m1), .second] [(.int (lcmpW r m1)), (.int (0 : Int32))])) _
    refine XS.ifYes X5.here hx rfl (pc0 := 82) (pc' := 89) rfl (hb hby at_82) rfl ((if0 _ _).trans (flt hc82).2.1) (by decide) (by decide) ?_
    show Steps p.tables e below (T5.setTop (mkF m 89 #[.val (.long p0), .second, .val (.int p1), .val (.long p2), .second, .val (.int p3), .val (.double xq), .second, .val (.long r), .second, .val (.long (1125899906842624 : Int64)), .second, .val (.long m1), .second] [(.int (0 : Int32))])) _
    refine XS.iconst X5.here hx rfl (hb hby at_89) ?_
    show Steps p.tables e below (T5.setTop (mkF m 90 #[.val (.long p0), .second, .val (.int p1), .val (.long p2), .second, .val (.int p3), .val (.double xq), .second, .val (.long r), .second, .val (.long (1125899906842624 : Int64)), .second, .val (.long m1), .second] [(.int (0 : Int32)), (.int (0 : Int32))])) _
    refine XS.icmpNo X5.here hx rfl (hb hby at_90) rfl (teq (by decide : (0 : Int32) = (0 : Int32))).2 ?_
    show Steps p.tables e below (T5.setTop (mkF m 93 #[.val (.long p0), .second, .val (.int p1), .val (.long p2), .second, .val (.int p3), .val (.double xq), .second, .val (.long r), .second, .val (.long (1125899906842624 : Int64)), .second, .val (.long m1), .second] [])) _
    refine XS.iconst X5.here hx rfl (hb hby at_93) ?_
    show Steps p.tables e below (T5.setTop (mkF m 94 #[.val (.long p0), .second, .val (.int p1), .val (.long p2), .second, .val (.int p3), .val (.double xq), .second, .val (.long r), .second, .val (.long (1125899906842624 : Int64)), .second, .val (.long m1), .second] [(.int (1 : Int32))])) _
    refine XS.goto X5.here hx rfl (pc0 := 94) (pc' := 98) rfl (hb hby at_94) (by decide) (by decide) ?_
    show Steps p.tables e below (T5.setTop (mkF m 98 #[.val (.long p0), .second, .val (.int p1), .val (.long p2), .second, .val (.int p3), .val (.double xq), .second, .val (.long r), .second, .val (.long (1125899906842624 : Int64)), .second, .val (.long m1), .second] [(.int (1 : Int32))])) _
    exact retN X5 hx (t := .boolean) Bd.returns (by simp) (hb hby at_98) hr
  · show Q0 n0 _ T5.heap _
    rw [e5]
    exact ⟨rfl, N5⟩
open Jvm.OwnFP in
theorem own_xy (p0 : Int64) (d : Int32) (hd : 1 ≤ d.toInt) : Jvm.Free.Fl.NoNaN64 (FP.ddiv (FP.l2d p0) (FP.i2d d)) ∧ Jvm.Free.Fl.Fin64 (FP.dmul (FP.ddiv (FP.l2d p0) (FP.i2d d)) (4696837146684686336 : UInt64)) := by
  have hb := (Ra.i2d d).big (by omega)
  have m1 := Jvm.RoadKit.ddiv_mag (Jvm.Free.Fl.l2d_mag p0) hb (by decide) (by decide)
  have m2 : Jvm.Free.Fl.Mag64 1044 (4696837146684686336 : UInt64) := by unfold Jvm.Free.Fl.Mag64; decide
  exact ⟨(m1.fin (by decide)).noNaN, (Jvm.Free.Fl.dmul_mag m1 m2 (by decide) (by decide)).fin (by decide)⟩
open Jvm.OwnFP in
theorem own_cut {y : UInt64} {m : Int64} (hy : Jvm.Free.Fl.Fin64 y) (m0 : -2251799813685300 ≤ m.toInt) (m1 : m.toInt ≤ 2251799813685300) :
    Jvm.Free.Fl.NoNaN64 (FP.dsub (FP.l2d m) (4602678819172646912 : UInt64)) ∧ (cmpValue (FP.dcmp y (FP.dsub (FP.l2d m) (4602678819172646912 : UInt64))) .g < (0 : Int32) ↔ 2 * zv y < (2 * m.toInt - 1) * (Jvm.FP.Core.one64 : Int)) := by
  have h1 : Ra (2 * m.toInt) 2 (FP.l2d m) := (Ra.l2d (by omega)).scale (by decide) (by omega)
  have h2 : Ra 1 2 (4602678819172646912 : UInt64) := Ra.lit (s := false) (c := 4503599627370496) (q := -53) (k := 1) (n := 52) (by decide +kernel) rfl (by decide) (by decide) (by decide)
  have h3 : Ra (2 * m.toInt - 1) 2 (FP.dsub (FP.l2d m) (4602678819172646912 : UInt64)) := h1.sub h2 (k := 1) (by omega) rfl (by decide)
  refine ⟨h3.nn, ?_⟩
  have e : zv (FP.dsub (FP.l2d m) (4602678819172646912 : UInt64)) * 2 = (2 * m.toInt - 1) * (Jvm.FP.Core.one64 : Int) := h3.2
  rw [← e]
  have ny := nan_of hy.noNaN
  constructor
  · intro q
    apply Int.lt_of_not_ge
    intro g
    exact cv_ge ny h3.ne_nan (by omega) .g q
  · intro q
    exact cv_lt' ny h3.ne_nan (by omega) .g
theorem own_dn (q : Int32) : 1 ≤ ((q &&& (4194303 : Int32)) + (1 : Int32)).toInt := by
  have a := c_and q (4194303 : Int32) (by decide)
  rw [show (4194303 : Int32).toInt = 4194303 by decide] at a
  have b := c_iadd (q &&& (4194303 : Int32)) (1 : Int32)
  rw [show (1 : Int32).toInt = 1 by decide] at b
  have c := rng32 ((q &&& (4194303 : Int32)) + (1 : Int32))
  omega
theorem own_rem (q : Int64) : -2251799813685248 < (q % (2251799813685248 : Int64)).toInt ∧ (q % (2251799813685248 : Int64)).toInt < 2251799813685248 := by
  rw [Int64.toInt_mod, show (2251799813685248 : Int64).toInt = 2251799813685248 by decide +kernel]
  have h := Jvm.RoadKit.tr q.toInt 2251799813685248
  have r := Int.emod_lt_of_pos q.toInt (show (0 : Int) < 2251799813685248 by decide); have r0 := Int.emod_nonneg q.toInt (show (2251799813685248 : Int) ≠ 0 by decide)
  have s := Int.emod_lt_of_pos (-q.toInt) (show (0 : Int) < 2251799813685248 by decide); have s0 := Int.emod_nonneg (-q.toInt) (show (2251799813685248 : Int) ≠ 0 by decide)
  rcases Int.lt_or_le q.toInt 0 with g | g
  · rw [h.2 g]; omega
  · rw [h.1 g]; omega
theorem own_r3 (q : Int32) : -3 < (q % (3 : Int32)).toInt ∧ (q % (3 : Int32)).toInt < 3 := by
  have h := c_irem q (3 : Int32) 3 (by decide)
  rcases Int.lt_or_le q.toInt 0 with g | g
  · rw [h.2 g]; omega
  · rw [h.1 g]; omega
theorem own_m {r p2 m1 m2 m3 : Int64} {p3 : Int32} (h3 : (if lcmpW r (1125899906842624 : Int64) < (0 : Int32) then (r + ((p3 >>> ((1 : Int32) &&& 31)) % (3 : Int32)).toInt64) else (p2 % (2251799813685248 : Int64))) = m3)
    (h2 : (if (0 : Int32) < lcmpW r (-(1125899906842624 : Int64)) then m3 else (p2 % (2251799813685248 : Int64))) = m2) (h1 : (if (p3 &&& (1 : Int32)) = (0 : Int32) then (p2 % (2251799813685248 : Int64)) else m2) = m1) :
    -2251799813685300 ≤ m1.toInt ∧ m1.toInt ≤ 2251799813685300 := by
  have q := own_rem p2
  by_cases c1 : (p3 &&& (1 : Int32)) = (0 : Int32)
  · rw [if_pos c1] at h1; subst h1; omega
  rw [if_neg c1] at h1; subst h1
  by_cases c2 : (0 : Int32) < lcmpW r (-(1125899906842624 : Int64))
  · rw [if_pos c2] at h2; subst h2
    by_cases c3 : lcmpW r (1125899906842624 : Int64) < (0 : Int32)
    · rw [if_pos c3] at h3; subst h3
      rw [lw_gt, Int64.lt_iff_toInt_lt, show (-(1125899906842624 : Int64)).toInt = -1125899906842624 by decide +kernel] at c2
      rw [lw_lt, Int64.lt_iff_toInt_lt, show (1125899906842624 : Int64).toInt = 1125899906842624 by decide +kernel] at c3
      have t := own_r3 (p3 >>> ((1 : Int32) &&& 31))
      have u := Jvm.OwnFP.i2l_of (x := (p3 >>> ((1 : Int32) &&& 31)) % (3 : Int32)) rfl
      rw [Jvm.OwnFP.ladd_of rfl u (by omega) (by omega)]; omega
    · rw [if_neg c3] at h3; subst h3; omega
  · rw [if_neg c2] at h2; subst h2; omega
theorem own_law (l : Launch) (Z : State) (a0 : Array Value) (hw : ∀ d ∈ tables_1, d.before a0 Z = true) (ws : List Jvm.Cond) (p0 : Int64) (p1 : Int32) (p2 : Int64) (p3 : Int32) (h0 : Heap) (n0 : Nat) (Z0 : n0 ≤ h0.size) :
    MetFree l x (head1 (Jvm.Cond.code x code maxLocals ret :: ws) room_1) (fun a U => a = #[(.long p0), (.int p1), (.long p2), (.int p3)] ∧ Z.Warmed39 U.vm ∧ U.heap = h0) (fun _ _ _ _ _ => True) (fun _ U o U' => ∃ v L, o = .returned v ∧ Q0 n0 v U'.heap L ∧ FrameEnd U o U' L room_1.cells room_1.slots) := by
  have hd1 := own_dn p1
  have nx := own_xy p0 _ hd1
  have nx1 := nx.1
  obtain ⟨xq, ehq9⟩ : ∃ z, (FP.ddiv (FP.l2d p0) (FP.i2d ((p1 &&& (4194303 : Int32)) + (1 : Int32)))) = z := ⟨_, rfl⟩
  rw [ehq9] at nx
  obtain ⟨y, ehq4_14⟩ : ∃ z, (FP.dmul xq (4696837146684686336 : UInt64)) = z := ⟨_, rfl⟩
  have fy := nx.2
  have nm := fy.noNaN
  rw [ehq4_14] at fy
  have df : Jvm.FP.Core.DFin y := Jvm.Free.Fl.fin64_core.mp fy
  by_cases ehc31 : (lcmpW (((1074 : Int64) - (((y.toInt64) &&& (9218868437227405312 : Int64)) >>> ((52 : Int32) &&& 0x3f).toInt64)) &&& (-64 : Int64)) (0 : Int64)) = (0 : Int32)
  · obtain ⟨sg, ehj_sg_5_14⟩ : ∃ z, (if (lcmpW (y.toInt64) (0 : Int64)) < (0 : Int32) then (-(((y.toInt64) &&& (4503599627370495 : Int64)) ||| (4503599627370496 : Int64))) else (((y.toInt64) &&& (4503599627370495 : Int64)) ||| (4503599627370496 : Int64))) = z := ⟨_, rfl⟩
    obtain ⟨r, ehv14⟩ : ∃ z, (((sg >>> ((((1074 : Int64) - (((y.toInt64) &&& (9218868437227405312 : Int64)) >>> ((52 : Int32) &&& 0x3f).toInt64)).toInt32) &&& 0x3f).toInt64) + (1 : Int64)) >>> ((1 : Int32) &&& 0x3f).toInt64) = z := ⟨_, rfl⟩
    obtain ⟨m3, ehj_m3⟩ : ∃ z, (if (lcmpW r (1125899906842624 : Int64)) < (0 : Int32) then (r + (((p3 >>> ((1 : Int32) &&& 31)) % (3 : Int32)).toInt64)) else (p2 % (2251799813685248 : Int64))) = z := ⟨_, rfl⟩
    obtain ⟨m2, ehj_m2⟩ : ∃ z, (if (0 : Int32) < (lcmpW r (-(1125899906842624 : Int64))) then m3 else (p2 % (2251799813685248 : Int64))) = z := ⟨_, rfl⟩
    obtain ⟨m1, ehj_m1⟩ : ∃ z, (if (p3 &&& (1 : Int32)) = (0 : Int32) then (p2 % (2251799813685248 : Int64)) else m2) = z := ⟨_, rfl⟩
    obtain ⟨b0, b1⟩ := own_m ehj_m3 ehj_m2 ehj_m1
    have cut := own_cut fy b0 b1
    have key := Jvm.OwnFP.round_shift (m := m1) df ehc31 ehj_sg_5_14 ehv14
    have lr : lcmpW r m1 < (0 : Int32) ↔ r.toInt < m1.toInt := by rw [lw_lt, Int64.lt_iff_toInt_lt]
    by_cases hlt : r.toInt < m1.toInt
    · exact rm0AT l Z a0 hw ws p0 p1 p2 p3 y sg xq r m3 m2 m1 h0 n0 Z0 (nn9 := nx1) (hq9 := ehq9) (nn4_14 := nm) (hq4_14 := ehq4_14) (hc31_5_14 := ehc31) (hj_sg_5_14 := ehj_sg_5_14) (hv14 := ehv14) (hj_m3 := ehj_m3) (hj_m2 := ehj_m2) (hj_m1 := ehj_m1) (nn4_74 := nm) (hq4_74 := ehq4_14) (nn10_74 := cut.1) (hc12_74 := cut.2.mpr (key.mp hlt)) (hc82 := lr.mpr hlt)
    · exact rm0AF l Z a0 hw ws p0 p1 p2 p3 y sg xq r m3 m2 m1 h0 n0 Z0 (nn9 := nx1) (hq9 := ehq9) (nn4_14 := nm) (hq4_14 := ehq4_14) (hc31_5_14 := ehc31) (hj_sg_5_14 := ehj_sg_5_14) (hv14 := ehv14) (hj_m3 := ehj_m3) (hj_m2 := ehj_m2) (hj_m1 := ehj_m1) (nn4_74 := nm) (hq4_74 := ehq4_14) (nn10_74 := cut.1) (hc12_74 := fun q => hlt (key.mpr (cut.2.mp q))) (hc82 := fun q => hlt (lr.mp q))
  · obtain ⟨r, ehv14⟩ : ∃ z, (FP.d2l y) = z := ⟨_, rfl⟩
    obtain ⟨m3, ehj_m3⟩ : ∃ z, (if (lcmpW r (1125899906842624 : Int64)) < (0 : Int32) then (r + (((p3 >>> ((1 : Int32) &&& 31)) % (3 : Int32)).toInt64)) else (p2 % (2251799813685248 : Int64))) = z := ⟨_, rfl⟩
    obtain ⟨m2, ehj_m2⟩ : ∃ z, (if (0 : Int32) < (lcmpW r (-(1125899906842624 : Int64))) then m3 else (p2 % (2251799813685248 : Int64))) = z := ⟨_, rfl⟩
    obtain ⟨m1, ehj_m1⟩ : ∃ z, (if (p3 &&& (1 : Int32)) = (0 : Int32) then (p2 % (2251799813685248 : Int64)) else m2) = z := ⟨_, rfl⟩
    obtain ⟨b0, b1⟩ := own_m ehj_m3 ehj_m2 ehj_m1
    have cut := own_cut fy b0 b1
    have key := Jvm.OwnFP.round_cast (m := m1) df ehc31 b0 b1
    rw [ehv14] at key
    have lr : lcmpW r m1 < (0 : Int32) ↔ r.toInt < m1.toInt := by rw [lw_lt, Int64.lt_iff_toInt_lt]
    by_cases hlt : r.toInt < m1.toInt
    · exact rm0BT l Z a0 hw ws p0 p1 p2 p3 y xq r m3 m2 m1 h0 n0 Z0 (nn9 := nx1) (hq9 := ehq9) (nn4_14 := nm) (hq4_14 := ehq4_14) (hc31_5_14 := ehc31) (hv14 := ehv14) (hj_m3 := ehj_m3) (hj_m2 := ehj_m2) (hj_m1 := ehj_m1) (nn4_74 := nm) (hq4_74 := ehq4_14) (nn10_74 := cut.1) (hc12_74 := cut.2.mpr (key.mp hlt)) (hc82 := lr.mpr hlt)
    · exact rm0BF l Z a0 hw ws p0 p1 p2 p3 y xq r m3 m2 m1 h0 n0 Z0 (nn9 := nx1) (hq9 := ehq9) (nn4_14 := nm) (hq4_14 := ehq4_14) (hc31_5_14 := ehc31) (hv14 := ehv14) (hj_m3 := ehj_m3) (hj_m2 := ehj_m2) (hj_m1 := ehj_m1) (nn4_74 := nm) (hq4_74 := ehq4_14) (nn10_74 := cut.1) (hc12_74 := fun q => hlt (key.mpr (cut.2.mp q))) (hc82 := fun q => hlt (lr.mp q))
set_option maxRecDepth 65536 in
set_option maxHeartbeats 40000000 in
theorem comes_1 {Post : Tables → Env → Array Value → State → Outcome → State → Prop} (hpost : ∀ tb e args s v u, (limb_1_1.after args s (.returned v) u = true ∧ limb_1_2.after args s (.returned v) u = true ∧ True) → FrameEnd s (.returned v) u (Jvm.fieldLocs frame_1_writes args s ++ Jvm.arrayLocs frame_1_arrays args s ++ Jvm.staticLocs frame_1_statics s) 0 0 → Post tb e args s (.returned v) u) :
    ArmFor flags0 classFile x code maxLocals ret World_1 tables_1 room_1 Calls_1 rest_1 Pre_1 Post := by
  intro l hfl _ _ p e ha hc hk s m args below hf hA hF happ hP
  obtain ⟨hcalls, hrest, hpre⟩ := hP
  obtain ⟨-, -, -, hnamed, -, -, -, hat⟩ := (Spec.applies_iff hf).mp happ
  obtain ⟨hg, hn⟩ := and_e (Cond.before_iff.mp (show (Jvm.Cond.and given_1 narrow_1).before args s = true from hpre))
  obtain ⟨g1, g2⟩ := and_e hg
  obtain ⟨g3, g4⟩ := and_e g2
  obtain ⟨g5, g6⟩ := and_e g4
  obtain ⟨g7, g8⟩ := and_e g6
  obtain ⟨w0, w1, w2, w3, rfl⟩ : ∃ w0 w1 w2 w3 : Value, args = #[w0, w1, w2, w3] := by
    have hs : args.size = 4 := by simpa [Cond.value, given_1] using g1
    obtain ⟨L⟩ := args
    match L, hs with
    | [w0, w1, w2, w3], _ => exact ⟨w0, w1, w2, w3, rfl⟩
  have hw := fun d (hd : d ∈ tables_1) => atoms_spec (ws := Jvm.Cond.code x code maxLocals ret :: tables_1) hat d (List.mem_cons_of_mem _ hd)
  have hfit : Fit s := fun {y c} hc i hi => by
    obtain ⟨ha, rfl⟩ := Array.getElem?_eq_some_iff.mp hc
    have q := List.all_eq_true.mp ((Array.all_eq_true_iff_forall_mem.mp hF) _ (Array.getElem_mem ha)) i (List.mem_range.mpr hi)
    simpa [Array.getElem?_eq_getElem hi] using q
  obtain ⟨i0, ei0⟩ := isL_v g3
  obtain rfl : w0 = (.long i0) := Option.some.inj ei0
  obtain ⟨i1, ei1⟩ := is_v g5
  obtain rfl : w1 = (.int i1) := Option.some.inj ei1
  obtain ⟨i2, ei2⟩ := isL_v g7
  obtain rfl : w2 = (.long i2) := Option.some.inj ei2
  obtain ⟨i3, ei3⟩ := is_v g8
  obtain rfl : w3 = (.int i3) := Option.some.inj ei3
  obtain ⟨n, o, h1, h2, h3, _, L, rfl, ⟨rfl, N⟩, hq⟩ := own_law l s _ hw tables_1 i0 i1 i2 i3 s.heap s.heap.size (Nat.le_refl _)  p e ha hc hk s m _ below hf ((Spec.applies_iff_loose hf).mp happ).1 ⟨rfl, State.Warmed39.refl s, rfl⟩ trivial
  refine ⟨n, _, h1, h2, h3, hpost _ _ _ _ _ _ ⟨Cond.after_iff.mpr rfl, Cond.after_iff.mpr (eq_i res_at (Term.int_eval (1)) rfl), trivial⟩ ⟨hq.1, hq.2.1, (hq.2.2.sift fun y hy => Or.inr (N y hy)).mono (by decide) (by decide)⟩⟩
theorem main_1_1 : Claimed_1_1 := comes_1 fun _ _ _ _ _ _ h hF => ⟨h.1, hF⟩
theorem main_1_2 : Claimed_1_2 := comes_1 fun _ _ _ _ _ _ h hF => ⟨h.2.1, hF⟩
end Jvm.Pilot.@@N@@
namespace Jvm.Pilot.@@N@@
open Jvm Jvm.ClassFile Sem Op Lib Jvm.Free Jvm.Stand Jvm.Pilot.@@N@@.Jvm.D
/-! MADE BY PROGRAM (witnessworld.py) out of the Statement's table words and the real class files: 15 classes; the members and pool entries that the words name. The judged class is class 1, her method 1. -/
namespace start1
open Jvm.ClassFile
def u (s : String) : CpInfo := .utf8 (stringToUtf16 s)
/-- a pool by its gaps: so many unusable entries, then the entry; so many at the end -/
def gap : Nat → List CpInfo → List CpInfo
  | 0, r => r
  | n + 1, r => .unusable :: gap n r
def poolList (es : List (Nat × CpInfo)) (last : Nat) : List CpInfo := es.foldr (fun e r => gap e.1 (e.2 :: r)) (gap last [])
def pool (es : List (Nat × CpInfo)) (last : Nat) : Array CpInfo := ⟨poolList es last⟩
def fileOf (pool : Array CpInfo) (this : Nat) (attrs : Array Attribute := #[]) (ms : Array MethodInfo := #[]) (fl : Nat := 33) (sup : Nat := 0) (ifs : Array Nat := #[]) (fds : Array FieldInfo := #[]) : ClassFile where
  minorVersion := 0
  majorVersion := 65
  constantPool := pool
  accessFlags := fl
  thisClass := this
  superClass := sup
  interfaces := ifs
  fields := fds
  methods := ms
  attributes := attrs
def plain (name : String) (sup : Option ClassId) : Class where
  name := name
  kind := .ordinary
  loader := none
  accessFlags := 33
  super := sup
  interfaces := #[]
  cf := none
  fields := #[]
  methods := #[]
  instanceTypes := #[]
  staticTypes := #[]
  resolved := #[]
  callSites := []
  init := .initialized
  statics := none
  mirror := none

def pool0 : Array CpInfo := pool [(5, u "<init>"), (0, u "()V"), (1, .class_ 10), (1, u "java/lang/Object")] 113

def k0m0 : Method := { name := "<init>", desc := "()V", sig := { parameters := [], returnType := none }, accessFlags := 1, code := none }
/-- java/lang/Object -/
def k0 : Class := { plain "java/lang/Object" none with
  accessFlags := 33
  interfaces := #[]
  cf := some (fileOf pool0 8 #[] #[{ accessFlags := 1, nameIndex := 5, descriptorIndex := 6, attributes := #[] }] 33 0 #[] #[])
  fields := #[]
  methods := #[k0m0]
  instanceTypes := #[]
  staticTypes := #[]
  resolved := Array.replicate 124 none
  statics := none }

def pool1 : Array CpInfo := pool [(2, .class_ 4), (1, u "java/lang/Object"), (0, u "<init>"), (0, u "()V"), (0, .integer 4194303), (0, .methodref 9 10), (0, .class_ 11), (0, .nameAndType 12 13), (0, u "com/example/nelira/nelira/index/Millionths"), (0, u "round"), (0, u "(D)J"), (0, .long 1125899906842624), (1, .long 2251799813685248), (1, .methodref 9 19), (0, .nameAndType 20 21), (0, u "roundsBelow"), (0, u "(DJ)Z"), (0, .class_ 23), (0, u "com/example/nelira/nelira/index/MillionthsRoundsBelowPinLaw"), (2, u "law"), (0, u "(JIJI)Z")] 3

def k1m0 : Method := { name := "<init>", desc := "()V", sig := { parameters := [], returnType := none }, accessFlags := 1, code := none }
def k1c1 : Code := { maxStack := 5, maxLocals := 14, code := code, exceptionTable := #[], attributes := #[] }
def k1m1 : Method := { name := "law", desc := "(JIJI)Z", sig := { parameters := [.long, .int, .long, .int], returnType := some .boolean }, accessFlags := 9, code := some k1c1 }
/-- com/example/nelira/nelira/index/MillionthsRoundsBelowPinLaw -/
def k1 : Class := { plain "com/example/nelira/nelira/index/MillionthsRoundsBelowPinLaw" (some 0) with
  accessFlags := 49
  interfaces := #[]
  cf := some (fileOf pool1 22 #[] #[{ accessFlags := 1, nameIndex := 5, descriptorIndex := 6, attributes := #[] }, { accessFlags := 9, nameIndex := 26, descriptorIndex := 27, attributes := #[] }] 49 2 #[] #[])
  fields := #[]
  methods := #[k1m0, k1m1]
  instanceTypes := #[]
  staticTypes := #[]
  resolved := Array.replicate 31 none
  statics := none }

def pool2 : Array CpInfo := pool [(2, .class_ 4), (1, u "java/lang/Object"), (0, u "<init>"), (0, u "()V"), (0, .class_ 8), (0, u "com/example/nelira/nelira/index/Millionths"), (0, .double 4696837146684686336), (1, .methodref 12 13), (0, .class_ 14), (0, .nameAndType 15 16), (0, u "java/lang/Math"), (0, u "round"), (0, u "(D)J"), (0, .double 4602678819172646912), (27, u "DECIMALS"), (0, u "I"), (2, u "PER_ONE"), (0, u "J"), (2, u "roundsBelow"), (0, u "(DJ)Z")] 19

def k2m0 : Method := { name := "<init>", desc := "()V", sig := { parameters := [], returnType := none }, accessFlags := 2, code := none }
def k2c1 : Code := { maxStack := 4, maxLocals := 2, code := prog_38_method_2_code, exceptionTable := #[], attributes := #[] }
def k2m1 : Method := { name := "round", desc := "(D)J", sig := { parameters := [.double], returnType := some .long }, accessFlags := 9, code := some k2c1 }
def k2c2 : Code := { maxStack := 6, maxLocals := 4, code := prog_38_method_3_code, exceptionTable := #[], attributes := #[] }
def k2m2 : Method := { name := "roundsBelow", desc := "(DJ)Z", sig := { parameters := [.double, .long], returnType := some .boolean }, accessFlags := 9, code := some k2c2 }
/-- com/example/nelira/nelira/index/Millionths -/
def k2 : Class := { plain "com/example/nelira/nelira/index/Millionths" (some 0) with
  accessFlags := 49
  interfaces := #[]
  cf := some (fileOf pool2 7 #[] #[{ accessFlags := 2, nameIndex := 5, descriptorIndex := 6, attributes := #[] }, { accessFlags := 9, nameIndex := 15, descriptorIndex := 16, attributes := #[] }, { accessFlags := 9, nameIndex := 53, descriptorIndex := 54, attributes := #[] }] 49 2 #[] #[{ accessFlags := 25, nameIndex := 45, descriptorIndex := 46, attributes := #[] }, { accessFlags := 26, nameIndex := 49, descriptorIndex := 50, attributes := #[] }])
  fields := #[{ name := "DECIMALS", type := .int, accessFlags := 25, slot := 0, constantValue := 0 }, { name := "PER_ONE", type := .long, accessFlags := 26, slot := 1, constantValue := 0 }]
  methods := #[k2m0, k2m1, k2m2]
  instanceTypes := #[]
  staticTypes := #[.int, .long]
  resolved := Array.replicate 74 none
  statics := none }

def pool3 : Array CpInfo := pool [(1, .class_ 2), (0, u "java/lang/Math"), (1, .class_ 6), (1, u "java/lang/Object"), (0, u "<init>"), (0, u "()V"), (70, .methodref 80 81), (0, .class_ 82), (0, .nameAndType 83 84), (0, u "java/lang/Double"), (0, u "doubleToRawLongBits"), (0, u "(D)J"), (2, .long 9218868437227405312), (1, .long 1074), (1, .long 18446744073709551552), (1, .long 4503599627370495), (1, .long 4503599627370496), (2, .class_ 100), (1, u "java/lang/Math$RandomNumberGeneratorHolder"), (71, u "negativeZeroFloatBits"), (0, u "J"), (2, u "negativeZeroDoubleBits"), (68, u "$assertionsDisabled"), (0, u "Z"), (91, u "twoToTheDoubleScaleDown"), (0, u "D"), (4, u "twoToTheDoubleScaleUp"), (9, u "E"), (3, u "PI"), (2, u "TAU"), (2, u "DEGREES_TO_RADIANS"), (0, u "RADIANS_TO_DEGREES"), (17, u "round")] 76

def k3m0 : Method := { name := "<init>", desc := "()V", sig := { parameters := [], returnType := none }, accessFlags := 2, code := none }
def k3c1 : Code := { maxStack := 4, maxLocals := 10, code := jdk_29_method_22_code, exceptionTable := #[], attributes := #[] }
def k3m1 : Method := { name := "round", desc := "(D)J", sig := { parameters := [.double], returnType := some .long }, accessFlags := 9, code := some k3c1 }
/-- java/lang/Math -/
def k3 : Class := { plain "java/lang/Math" (some 0) with
  accessFlags := 49
  interfaces := #[]
  cf := some (fileOf pool3 1 #[.nestMembers #[98]] #[{ accessFlags := 2, nameIndex := 7, descriptorIndex := 8, attributes := #[] }, { accessFlags := 9, nameIndex := 383, descriptorIndex := 84, attributes := #[] }] 49 4 #[] #[{ accessFlags := 25, nameIndex := 354, descriptorIndex := 339, attributes := #[] }, { accessFlags := 25, nameIndex := 358, descriptorIndex := 339, attributes := #[] }, { accessFlags := 25, nameIndex := 361, descriptorIndex := 339, attributes := #[] }, { accessFlags := 26, nameIndex := 364, descriptorIndex := 339, attributes := #[] }, { accessFlags := 26, nameIndex := 365, descriptorIndex := 339, attributes := #[] }, { accessFlags := 26, nameIndex := 172, descriptorIndex := 173, attributes := #[] }, { accessFlags := 26, nameIndex := 176, descriptorIndex := 173, attributes := #[] }, { accessFlags := 8, nameIndex := 344, descriptorIndex := 339, attributes := #[] }, { accessFlags := 8, nameIndex := 338, descriptorIndex := 339, attributes := #[] }, { accessFlags := 4120, nameIndex := 245, descriptorIndex := 246, attributes := #[] }])
  fields := #[{ name := "E", type := .double, accessFlags := 25, slot := 0, constantValue := 0 }, { name := "PI", type := .double, accessFlags := 25, slot := 1, constantValue := 0 }, { name := "TAU", type := .double, accessFlags := 25, slot := 2, constantValue := 0 }, { name := "DEGREES_TO_RADIANS", type := .double, accessFlags := 26, slot := 3, constantValue := 0 }, { name := "RADIANS_TO_DEGREES", type := .double, accessFlags := 26, slot := 4, constantValue := 0 }, { name := "negativeZeroFloatBits", type := .long, accessFlags := 26, slot := 5, constantValue := 0 }, { name := "negativeZeroDoubleBits", type := .long, accessFlags := 26, slot := 6, constantValue := 0 }, { name := "twoToTheDoubleScaleUp", type := .double, accessFlags := 8, slot := 7, constantValue := 0 }, { name := "twoToTheDoubleScaleDown", type := .double, accessFlags := 8, slot := 8, constantValue := 0 }, { name := "$assertionsDisabled", type := .boolean, accessFlags := 4120, slot := 9, constantValue := 0 }]
  methods := #[k3m0, k3m1]
  instanceTypes := #[]
  staticTypes := #[.double, .double, .double, .double, .double, .long, .long, .double, .double, .boolean]
  resolved := Array.replicate 460 none
  statics := none }

def pool4 : Array CpInfo := pool [(1, .class_ 2), (0, u "java/io/Serializable"), (0, .class_ 4), (0, u "java/lang/Object")] 2

/-- java/io/Serializable -/
def k4 : Class := { plain "java/io/Serializable" (some 0) with
  accessFlags := 1537
  interfaces := #[]
  cf := some (fileOf pool4 1 #[] #[] 1537 3 #[] #[])
  fields := #[]
  methods := #[]
  instanceTypes := #[]
  staticTypes := #[]
  resolved := Array.replicate 7 none
  statics := none }

def pool5 : Array CpInfo := pool [(2, .class_ 4), (1, u "java/lang/Object"), (0, u "<init>"), (0, u "()V"), (1, .class_ 10), (1, u "java/lang/Number"), (2, .class_ 14), (0, u "java/io/Serializable"), (0, u "serialVersionUID"), (0, u "J")] 20

def k5m0 : Method := { name := "<init>", desc := "()V", sig := { parameters := [], returnType := none }, accessFlags := 1, code := none }
/-- java/lang/Number -/
def k5 : Class := { plain "java/lang/Number" (some 0) with
  accessFlags := 1057
  interfaces := #[4]
  cf := some (fileOf pool5 8 #[] #[{ accessFlags := 1, nameIndex := 5, descriptorIndex := 6, attributes := #[] }] 1057 2 #[13] #[{ accessFlags := 26, nameIndex := 15, descriptorIndex := 16, attributes := #[] }])
  fields := #[{ name := "serialVersionUID", type := .long, accessFlags := 26, slot := 0, constantValue := 0 }]
  methods := #[k5m0]
  instanceTypes := #[]
  staticTypes := #[.long]
  resolved := Array.replicate 37 none
  statics := none }

def pool6 : Array CpInfo := pool [(1, .class_ 2), (0, u "java/lang/Comparable"), (0, .class_ 4), (0, u "java/lang/Object")] 7

/-- java/lang/Comparable -/
def k6 : Class := { plain "java/lang/Comparable" (some 0) with
  accessFlags := 1537
  interfaces := #[]
  cf := some (fileOf pool6 1 #[] #[] 1537 3 #[] #[])
  fields := #[]
  methods := #[]
  instanceTypes := #[]
  staticTypes := #[]
  resolved := Array.replicate 12 none
  statics := none }

def pool7 : Array CpInfo := pool [(1, .class_ 2), (0, u "java/lang/constant/Constable"), (0, .class_ 4), (0, u "java/lang/Object")] 6

/-- java/lang/constant/Constable -/
def k7 : Class := { plain "java/lang/constant/Constable" (some 0) with
  accessFlags := 1537
  interfaces := #[]
  cf := some (fileOf pool7 1 #[] #[] 1537 3 #[] #[])
  fields := #[]
  methods := #[]
  instanceTypes := #[]
  staticTypes := #[]
  resolved := Array.replicate 11 none
  statics := none }

def pool8 : Array CpInfo := pool [(1, .class_ 2), (0, u "java/lang/constant/ConstantDesc"), (0, .class_ 4), (0, u "java/lang/Object")] 32

/-- java/lang/constant/ConstantDesc -/
def k8 : Class := { plain "java/lang/constant/ConstantDesc" (some 0) with
  accessFlags := 1537
  interfaces := #[]
  cf := some (fileOf pool8 1 #[] #[] 1537 3 #[] #[])
  fields := #[]
  methods := #[]
  instanceTypes := #[]
  staticTypes := #[]
  resolved := Array.replicate 37 none
  statics := none }

def pool9 : Array CpInfo := pool [(1, .class_ 2), (0, u "java/lang/Double"), (46, u "(D)J"), (64, .class_ 116), (1, u "java/lang/Number"), (3, u "value"), (0, u "D"), (14, u "doubleToRawLongBits"), (36, u "TYPE"), (0, u "Ljava/lang/Class;"), (0, .class_ 176), (0, u "java/lang/Comparable"), (0, .class_ 178), (0, u "java/lang/constant/Constable"), (0, .class_ 180), (0, u "java/lang/constant/ConstantDesc"), (0, u "POSITIVE_INFINITY"), (3, u "NEGATIVE_INFINITY"), (2, u "NaN"), (2, u "MAX_VALUE"), (0, u "MIN_NORMAL"), (0, u "MIN_VALUE"), (2, u "SIZE"), (0, u "I"), (1, u "PRECISION"), (1, u "MAX_EXPONENT"), (1, u "MIN_EXPONENT"), (1, u "BYTES"), (3, u "serialVersionUID"), (0, u "J")] 79

def k9m0 : Method := { name := "doubleToRawLongBits", desc := "(D)J", sig := { parameters := [.double], returnType := some .long }, accessFlags := 265, code := none }
/-- java/lang/Double -/
def k9 : Class := { plain "java/lang/Double" (some 5) with
  accessFlags := 49
  interfaces := #[6, 7, 8]
  cf := some (fileOf pool9 1 #[] #[{ accessFlags := 265, nameIndex := 136, descriptorIndex := 49, attributes := #[] }] 49 114 #[175, 177, 179] #[{ accessFlags := 25, nameIndex := 181, descriptorIndex := 121, attributes := #[] }, { accessFlags := 25, nameIndex := 185, descriptorIndex := 121, attributes := #[] }, { accessFlags := 25, nameIndex := 188, descriptorIndex := 121, attributes := #[] }, { accessFlags := 25, nameIndex := 191, descriptorIndex := 121, attributes := #[] }, { accessFlags := 25, nameIndex := 192, descriptorIndex := 121, attributes := #[] }, { accessFlags := 25, nameIndex := 193, descriptorIndex := 121, attributes := #[] }, { accessFlags := 25, nameIndex := 196, descriptorIndex := 197, attributes := #[] }, { accessFlags := 25, nameIndex := 199, descriptorIndex := 197, attributes := #[] }, { accessFlags := 25, nameIndex := 201, descriptorIndex := 197, attributes := #[] }, { accessFlags := 25, nameIndex := 203, descriptorIndex := 197, attributes := #[] }, { accessFlags := 25, nameIndex := 205, descriptorIndex := 197, attributes := #[] }, { accessFlags := 25, nameIndex := 173, descriptorIndex := 174, attributes := #[] }, { accessFlags := 18, nameIndex := 120, descriptorIndex := 121, attributes := #[] }, { accessFlags := 26, nameIndex := 209, descriptorIndex := 210, attributes := #[] }])
  fields := #[{ name := "POSITIVE_INFINITY", type := .double, accessFlags := 25, slot := 0, constantValue := 0 }, { name := "NEGATIVE_INFINITY", type := .double, accessFlags := 25, slot := 1, constantValue := 0 }, { name := "NaN", type := .double, accessFlags := 25, slot := 2, constantValue := 0 }, { name := "MAX_VALUE", type := .double, accessFlags := 25, slot := 3, constantValue := 0 }, { name := "MIN_NORMAL", type := .double, accessFlags := 25, slot := 4, constantValue := 0 }, { name := "MIN_VALUE", type := .double, accessFlags := 25, slot := 5, constantValue := 0 }, { name := "SIZE", type := .int, accessFlags := 25, slot := 6, constantValue := 0 }, { name := "PRECISION", type := .int, accessFlags := 25, slot := 7, constantValue := 0 }, { name := "MAX_EXPONENT", type := .int, accessFlags := 25, slot := 8, constantValue := 0 }, { name := "MIN_EXPONENT", type := .int, accessFlags := 25, slot := 9, constantValue := 0 }, { name := "BYTES", type := .int, accessFlags := 25, slot := 10, constantValue := 0 }, { name := "TYPE", type := (.object "java/lang/Class"), accessFlags := 25, slot := 11, constantValue := 0 }, { name := "value", type := .double, accessFlags := 18, slot := 0, constantValue := 0 }, { name := "serialVersionUID", type := .long, accessFlags := 26, slot := 12, constantValue := 0 }]
  methods := #[k9m0]
  instanceTypes := #[.double]
  staticTypes := #[.double, .double, .double, .double, .double, .double, .int, .int, .int, .int, .int, (.object "java/lang/Class"), .long]
  resolved := Array.replicate 290 none
  statics := none }

def pool10 : Array CpInfo := pool [(1, u "java/lang/Cloneable"), (0, .class_ 1), (0, u "java/lang/Object"), (0, .class_ 3)] 3

/-- java/lang/Cloneable -/
def k10 : Class := { plain "java/lang/Cloneable" (some 0) with
  accessFlags := 1537
  interfaces := #[]
  cf := some (fileOf pool10 2 #[] #[] 1537 4 #[] #[])
  fields := #[]
  methods := #[]
  instanceTypes := #[]
  staticTypes := #[]
  resolved := Array.replicate 8 none
  statics := none }

/-- the primitive byte -/
def k11 : Class := { plain "byte" none with kind := .primitive 'B', accessFlags := 0x411 }
/-- [B -/
def k12 : Class := { plain "[B" (some 0) with kind := .array 11 .byte, interfaces := #[10, 4], accessFlags := 1041 }

/-- the primitive int -/
def k13 : Class := { plain "int" none with kind := .primitive 'I', accessFlags := 0x411 }
/-- [I -/
def k14 : Class := { plain "[I" (some 0) with kind := .array 13 .int, interfaces := #[10, 4], accessFlags := 1041 }

def heap : Heap := #[]
def classes : Array Class := #[k0, k1, k2, k3, k4, k5, k6, k7, k8, k9, k10, k11, k12, k13, k14]
def interned : List (Array UInt16 × Addr) := []
def slotsUsed : Nat := 0
def theMethod : MethodId := ⟨1, 1⟩
def args0 : Array Value := #[.long 5, .int 7, .long 3, .int 2]
def aboutOver (below : List Frame) : State where
  vm := { classes := classes, interned := interned.toArray }
  heap := heap
  slotsUsed := slotsUsed
  threads := #[{ frames := .invoking theMethod args0 :: below }]
def below0 : List Frame := [.native { method := ⟨0, 0⟩, args := #[] }]
def about1 : State := aboutOver below0
def p0 : Program := .bare "" "" ""
def e0 : Env := launch0.env 0 0 0
theorem w_frames : about1.frames = Frame.invoking theMethod args0 :: below0 := rfl
set_option maxRecDepth 65536 in
theorem w_args : argsFit about1.vm theMethod args0 = true := by decide +kernel
set_option maxRecDepth 65536 in
theorem w_heap : heapFits about1 = true := by decide +kernel
set_option maxRecDepth 65536 in
theorem w_runnable : about1.curStatus? = some .runnable := by decide +kernel
set_option maxRecDepth 65536 in
theorem w_alone : about1.alone = true := by decide +kernel
set_option maxRecDepth 65536 in
theorem w_named : about1.methodNamed? x = some theMethod := by decide +kernel
set_option maxRecDepth 65536 in
theorem w_hears : about1.hears theMethod below0 = true := by decide +kernel
set_option maxRecDepth 65536 in
theorem w_ripe : about1.ripe theMethod args0 below0 = true := by decide +kernel
theorem w_running : about1.status = .running := rfl
set_option maxRecDepth 65536 in
theorem w_room : about1.hasRoom e0.platform room_1 = true :=
  launch0.hasRoom_least _ room_1 (by decide +kernel) (by decide +kernel) (by decide +kernel) (by decide +kernel) (by decide +kernel) (by decide +kernel)
theorem allAtoms_all (ts : List Jvm.Cond) (a : Array Jvm.Value) (st : Jvm.State) : (allAtoms ts).before a st = ts.all (fun c => c.before a st) := by
  induction ts with
  | nil => rfl
  | cons c t ih =>
    show (Jvm.Cond.and c (allAtoms t)).before a st = _
    rw [Jvm.Cond.before_and, ih, List.all_cons]
def words1 : List Jvm.Cond := Jvm.Cond.code x code maxLocals ret :: tables_1
/-- a 'code' word, met by the world's own term for the bytes: nothing is compared byte by byte -/
theorem code_word {y : MethodName} {bytes : ByteArray} {mx : Nat} {rt : Option FieldType} {a : Array Value} {s : State} {m : MethodId} {meth : Method} {c : Code} (h1 : s.methodNamed? y = some m) (h2 : s.vm.method? m = some meth) (h3 : meth.code = some c) (h4 : c.code = bytes)
    (h5 : (c.maxLocals == mx && c.exceptionTable.isEmpty && decide (c.maxStack ≤ mostOperands) && decide (meth.sig.returnType = rt) && !meth.locks && decide (parseMethodDescriptor y.desc = some meth.sig)) = true) : (Jvm.Cond.code y bytes mx rt).before a s = true := by
  simp only [Bool.and_eq_true, beq_iff_eq, Bool.not_eq_true', decide_eq_true_eq] at h5
  obtain ⟨⟨⟨⟨⟨g1, g2⟩, g3⟩, g4⟩, g5⟩, g6⟩ := h5
  simp [Cond.before, Cond.holds, Cond.value, h1, h2, h3, h4, g1, g2, g3, g4, g5, g6]
def isCode : Jvm.Cond → Bool
  | .code _ _ _ _ => true
  | _ => false
theorem all_split {L : List Jvm.Cond} {P : Jvm.Cond → Bool} (h1 : L.all (fun c => isCode c || P c) = true) (h2 : ∀ c ∈ L.filter isCode, P c = true) : L.all P = true := by
  refine List.all_eq_true.mpr fun c hc => ?_
  have h := List.all_eq_true.mp h1 c hc
  rcases Bool.eq_false_or_eq_true (isCode c) with hi | hi
  · exact h2 c (List.mem_filter.mpr ⟨hc, hi⟩)
  · simpa [hi] using h
set_option maxRecDepth 65536 in
theorem w_c0 : (Jvm.Cond.code x code maxLocals ret).before args0 about1 = true := code_word (m := ⟨1, 1⟩) (meth := k1m1) (c := k1c1) (by decide +kernel) rfl rfl rfl (by decide +kernel)
set_option maxRecDepth 65536 in
theorem w_c1 : (Jvm.Cond.code ({ cls := "com/example/nelira/nelira/index/Millionths", name := "round", desc := "(D)J" } : Jvm.MethodName) prog_38_method_2_code (2 : Nat) (Option.some Jvm.ClassFile.FieldType.long)).before args0 about1 = true := code_word (m := ⟨2, 1⟩) (meth := k2m1) (c := k2c1) (by decide +kernel) rfl rfl rfl (by decide +kernel)
set_option maxRecDepth 65536 in
theorem w_c2 : (Jvm.Cond.code ({ cls := "java/lang/Math", name := "round", desc := "(D)J" } : Jvm.MethodName) jdk_29_method_22_code (10 : Nat) (Option.some Jvm.ClassFile.FieldType.long)).before args0 about1 = true := code_word (m := ⟨3, 1⟩) (meth := k3m1) (c := k3c1) (by decide +kernel) rfl rfl rfl (by decide +kernel)
set_option maxRecDepth 65536 in
theorem w_c3 : (Jvm.Cond.code ({ cls := "com/example/nelira/nelira/index/Millionths", name := "roundsBelow", desc := "(DJ)Z" } : Jvm.MethodName) prog_38_method_3_code (4 : Nat) (Option.some Jvm.ClassFile.FieldType.boolean)).before args0 about1 = true := code_word (m := ⟨2, 2⟩) (meth := k2m2) (c := k2c2) (by decide +kernel) rfl rfl rfl (by decide +kernel)
def codes1 : List Jvm.Cond := [Jvm.Cond.code x code maxLocals ret, Jvm.Cond.code ({ cls := "com/example/nelira/nelira/index/Millionths", name := "round", desc := "(D)J" } : Jvm.MethodName) prog_38_method_2_code (2 : Nat) (Option.some Jvm.ClassFile.FieldType.long), Jvm.Cond.code ({ cls := "java/lang/Math", name := "round", desc := "(D)J" } : Jvm.MethodName) jdk_29_method_22_code (10 : Nat) (Option.some Jvm.ClassFile.FieldType.long), Jvm.Cond.code ({ cls := "com/example/nelira/nelira/index/Millionths", name := "roundsBelow", desc := "(DJ)Z" } : Jvm.MethodName) prog_38_method_3_code (4 : Nat) (Option.some Jvm.ClassFile.FieldType.boolean)]
set_option maxRecDepth 65536 in
theorem codes_eq : words1.filter isCode = codes1 := rfl
theorem w_codes : ∀ c ∈ words1.filter isCode, c.before args0 about1 = true := by
  rw [codes_eq]
  intro c hc
  simp only [codes1, List.mem_cons, List.not_mem_nil, or_false] at hc
  rcases hc with rfl | rfl | rfl | rfl
  · exact w_c0
  · exact w_c1
  · exact w_c2
  · exact w_c3
set_option maxRecDepth 65536 in
theorem w_t1 : (words1.take 24).all (fun c => isCode c || c.before args0 about1) = true := by decide +kernel
set_option maxRecDepth 65536 in
theorem w_t2 : (words1.drop 24).all (fun c => isCode c || c.before args0 about1) = true := by decide +kernel
theorem w_tables : (allAtoms (Jvm.Cond.code x code maxLocals ret :: tables_1)).before args0 about1 = true := by
  rw [allAtoms_all]
  show words1.all (fun c => c.before args0 about1) = true
  refine all_split ?_ w_codes
  rw [← List.take_append_drop 24 words1, List.all_append, w_t1, w_t2]
  rfl
set_option maxRecDepth 65536 in
theorem w_case : (Jvm.Cond.and given_1 narrow_1).before args0 about1 = true := by decide +kernel
theorem w_applies : (headSpec (Jvm.Cond.code x code maxLocals ret :: tables_1) room_1).applies x e0.platform about1 = true :=
  (Spec.applies_iff w_frames).mpr ⟨w_running, w_runnable, w_alone, w_named, w_hears, w_ripe, w_room, w_tables⟩
theorem atStart : AtStart classFile x code maxLocals ret World_1 tables_1 room_1 Calls_1 rest_1 Pre_1 launch0 p0 e0 about1 theMethod args0 below0 :=
  ⟨lists_1, trivial, launch0.admits_env _ _ _, launch0.least_env, fairChoices_fair.cas, fairChoices_fair.clock, w_frames, w_args, w_heap, w_applies, trivial, trivial, w_case⟩
end start1
theorem witness_1 : WitnessClaimed_1 := ⟨start1.p0, start1.e0, start1.about1, start1.theMethod, start1.args0, start1.below0, start1.atStart⟩
end Jvm.Pilot.@@N@@
