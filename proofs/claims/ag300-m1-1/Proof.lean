import JvmDerived
import JvmDerived.Pilot.@@N@@Statement
import JvmDerived.Pilot.@@N@@Code
set_option linter.unusedVariables false
set_option linter.unusedSimpArgs false
namespace Jvm.RoadKit
open Sem ClassFile Op Lib Jvm.Stand Jvm.Free Jvm.LawKit
section Own
variable {p : Program} {l : Launch} {e : Env} {R : Room} {s : State} {m : MethodId} {args : Array Value} {below : List Frame} {meth : Method} {c : Code} {T : State} {locs : List Loc} {cells slots : Nat}
theorem own_ni0 {a : Addr} : a ∉ ([] : List Addr) := List.not_mem_nil
theorem own_niS {a b : Addr} {ws : List Addr} (h : a ≠ b) (r : a ∉ ws) : a ∉ b :: ws := fun q => (List.mem_cons.mp q).elim h r
theorem own_all0 {P : Addr → Prop} : ∀ x ∈ ([] : List Addr), P x := fun _ q => nomatch q
theorem own_allS {P : Addr → Prop} {b : Addr} {ws : List Addr} (h : P b) (r : ∀ x ∈ ws, P x) : ∀ x ∈ b :: ws, P x := fun x q => (List.mem_cons.mp q).elim (fun e => e ▸ h) (r x)
theorem own_lremM {g : JFrame} {target : State} (X : Stand p l e R s m args below meth c T locs cells slots) (hx : p.tables.exec = Jvm.exec) (hg : g.method = m) {x y : Int64} {rest : List Value} (hd : decode c.code g.pc = .ok (.lrem, 1)) (hs : g.stack = .long y :: .long x :: rest) (hy : y ≠ 0)
    (hr : Steps p.tables e below (T.setTop { g with pc := g.pc + 1, stack := .long (x % y) :: rest }) target) : Steps p.tables e below (T.setTop g) target :=
  XS.lrem X.here hx hg hd hs hy (by rw [lrem_mod]; exact hr)
end Own
end Jvm.RoadKit
namespace Jvm.RoadKit
open Sem ClassFile Op Lib Jvm.Stand Jvm.Free Jvm.LawKit
section OwnN
variable {p : Program} {l : Launch} {e : Env} {R : Room} {s : State} {m : MethodId} {args : Array Value} {below : List Frame} {meth : Method} {c : Code} {T : State} {locs : List Loc} {cells slots : Nat} {Z : State} {h : Heap}
/-- Double.doubleToRawLongBits: its payer's answer as one step -/
theorem own_bits (X : Stand p l e R s m args below meth c T locs cells slots) (hx : p.tables.exec = Jvm.exec) (hZ : Z.Warmed39 s.vm) {a0 : Array Value} {own : String} {index : Nat} (hown : s.vm.findClass own = some m.cls)
    (w1 : (Cond.methodLink own index ⟨"java/lang/Double", "doubleToRawLongBits", "(D)J"⟩).before a0 Z = true) (w2 : (Cond.static ⟨"java/lang/Double", "doubleToRawLongBits", "(D)J"⟩).before a0 Z = true) (w3 : (Cond.initialized "java/lang/Double").before a0 Z = true) (w4 : (Cond.native ⟨"java/lang/Double", "doubleToRawLongBits", "(D)J"⟩).before a0 Z = true)
    (eT : T.heap = h) {W : Nat} {g : JFrame} (hg : g.method = m) (hsize : g.locals.size = c.maxLocals) {b : UInt64} {rest : List Value} (hst : g.stack = .double b :: rest) (hW : 2 * g.monitorRoom + (rest.map fun v => v.category).sum ≤ W)
    (hd : decode c.code g.pc = .ok (.invokestatic index, 3)) (hfr : 1 ≤ R.frames) (hlo : W + 15 ≤ R.locals) :
    ∃ T', Stand p l e R s m args below meth c T' locs cells slots ∧ T'.heap = h ∧ ∀ target, Steps p.tables e below (T'.setTop { g with pc := g.pc + 3, stack := .long b.toInt64 :: rest }) target → Steps p.tables e below (T.setTop g) target := by
  have n4 : (Cond.native ⟨"java/lang/Double", "doubleToRawLongBits", "(D)J"⟩).before args s = true := mvT hZ w4
  obtain ⟨mk, methM, hnamed, hmethM, -, -, -, hsig⟩ := Cond.native_spec n4
  have hpd : parseMethodDescriptor "(D)J" = some ⟨[.double], some .long⟩ := by decide +kernel
  obtain ⟨v, vm1, B, hW1, X', ⟨hB, hv⟩, st⟩ := Stand.staticBack (args := args) X hx hown (mvT hZ w1) (mvT hZ w2) (mvT hZ w3) hnamed hmethM hsig (by decide)
    (Jvm.Free.NT.DoubleBits.pays n4 (mvT hZ w2) hfr hlo) hg hsize (Steps.refl _) (argsL := [.double b]) (rest := rest) (lenOf hpd rfl) hst hW hd (fun _ _ => ⟨b, rfl⟩)
  have hv' := hv b rfl
  subst hB hv'
  exact ⟨_, X', eT, fun target k => st.trans k⟩
/-- a private instance method is its own choice -/
theorem own_selp {y : MethodName} {s : State} {args : Array Value} {n : Nat} (hy : y.cls ≠ "java/lang/invoke/MethodHandle" ∧ y.cls ≠ "java/lang/invoke/VarHandle")
    (h1 : (Cond.instantiable y.cls n).before args s = true) (h2 : (Cond.privateMethod y).before args s = true) (h3 : (Cond.instanceMethod y).before args s = true) : (Cond.selects y.cls y y).before args s = true := by
  obtain ⟨c, k, hc, hk, -, hab, -, -⟩ := Cond.instantiable_spec h1
  obtain ⟨mk, mt, hn, hm, -, -⟩ := Cond.instanceMethod_spec h3
  have hf : s.methodFound? y.cls y.name y.desc = some mk := State.methodFound?_of_named hn hy
  have hcl : mk.cls = c := Option.some.inj ((findClass_of_methodNamed hn).symm.trans hc)
  have hs : selectMethod {} s.vm c mk = .method mk := selectMethod_private hm (Cond.privateMethod_at h2 mk mt hn hm)
  simp only [Cond.before, Cond.holds, Cond.value, hc, hf, hn, hs, hcl, hk]
  simpa using (Bool.or_eq_false_iff.mp hab).1
end OwnN
end Jvm.RoadKit
namespace Jvm.OwnFP
open Jvm.FP Jvm.FP.Core Jvm.Free.Fl
/-- a double's worth, in units of the least positive double -/
def zv (x : UInt64) : Int := zval b64 (val64 x)
/-- x is finite and is the number i / D -/
def Ra (i : Int) (D : Nat) (x : UInt64) : Prop := DFin x ∧ zv x * (D : Int) = i * (one64 : Int)
theorem Ra.fin {i : Int} {D : Nat} {x : UInt64} (h : Ra i D x) : Fin64 x := fin64_core.mpr h.1
theorem Ra.nn {i : Int} {D : Nat} {x : UInt64} (h : Ra i D x) : NoNaN64 x := h.fin.noNaN
theorem Ra.ne_nan {i : Int} {D : Nat} {x : UInt64} (h : Ra i D x) : val64 x ≠ .nan := h.1.ne_nan
theorem oz : (0 : Int) < (one64 : Int) := Int.natCast_pos.mpr one64_pos
theorem nan_of {x : UInt64} (h : NoNaN64 x) : val64 x ≠ .nan := (notNaN_iff x).mp (noNaN64_no.mp h)
theorem mulc {a b c : Int} (hc : c ≠ 0) (h : a * c = b * c) : a = b := Int.eq_of_mul_eq_mul_right hc h
theorem al_scale {z D D' i i' o : Int} (h : z * D = i * o) (e : i * D' = i' * D) : z * D' * D = i' * o * D := by
  calc z * D' * D = z * D * D' := by ac_rfl
    _ = i * o * D' := by rw [h]
    _ = i * D' * o := by ac_rfl
    _ = i' * o * D := by rw [e]; ac_rfl
theorem al_mul {x y v D E i j o : Int} (hx : x * D = i * o) (hy : y * E = j * o) (hv : v * (D * E) = i * j * o) : x * y * (D * E) = v * o * (D * E) := by
  calc x * y * (D * E) = (x * D) * (y * E) := by ac_rfl
    _ = (i * o) * (j * o) := by rw [hx, hy]
    _ = (i * j * o) * o := by ac_rfl
    _ = v * (D * E) * o := by rw [hv]
    _ = v * o * (D * E) := by ac_rfl
theorem al_mulr {x y v D E F i j r o : Int} (hx : x * D = i * o) (hy : y * E = j * o) (hv : v * F = r * o) (h : i * j * F = r * (D * E)) : x * y * D * E * F = v * o * D * E * F := by
  calc x * y * D * E * F = (x * D) * (y * E) * F := by ac_rfl
    _ = (i * j * F) * (o * o) := by rw [hx, hy]; ac_rfl
    _ = (r * o) * o * (D * E) := by rw [h]; ac_rfl
    _ = (v * F) * o * (D * E) := by rw [hv]
    _ = v * o * D * E * F := by ac_rfl
theorem al_div {x y v D E F i j r o : Int} (hx : x * D = i * o) (hy : y * E = j * o) (hv : v * F = r * o) (h : i * E * F = r * (j * D)) : x * o * D * E * F = v * y * D * E * F := by
  calc x * o * D * E * F = (x * D) * (o * E * F) := by ac_rfl
    _ = (i * E * F) * (o * o) := by rw [hx]; ac_rfl
    _ = (r * o) * (j * o) * D := by rw [h]; ac_rfl
    _ = (v * F) * (y * E) * D := by rw [hv, hy]
    _ = v * y * D * E * F := by ac_rfl
theorem al_units {V d P Q : Nat} : V * P * d * Q = (V * (d * Q)) * P := by ac_rfl
theorem al_mag {i P D o : Nat} (h : i ≤ P * D) : i * o ≤ P * o * D := by
  calc i * o ≤ P * D * o := Nat.mul_le_mul_right _ h
    _ = P * o * D := by ac_rfl
theorem rep {i : Int} {D k : Nat} (hi : i.natAbs < 9007199254740992) (hD : D = 2 ^ k) (hk : k ≤ 1000) : ∃ V, Ra i D V := by
  have hc : i.natAbs < 2 ^ b64.p := by rw [show (2 : Nat) ^ b64.p = 9007199254740992 by decide +kernel]; exact hi
  have hq2 : b64.qmax = 971 := by decide
  obtain ⟨c', q', h1, h2⟩ := round_exact good_b64 (decide (i < 0)) (c := i.natAbs) (q := -(k : Int)) hc (by rw [qmin_b64]; omega) (by rw [hq2]; omega)
  refine ⟨of64 (round b64 (.fin (decide (i < 0)) i.natAbs (-(k : Int)))), ⟨_, _, _, by rw [val64_of64 (round_fits good_b64 _), h1]⟩, ?_⟩
  unfold zv
  rw [val64_of64 (round_fits good_b64 _), h1]
  show signed (decide (i < 0)) (inUnits c' q' b64.qmin) * _ = _
  rw [h2]
  unfold inUnits
  have e1 : signed (decide (i < 0)) i.natAbs = i := by unfold signed; by_cases h : i < 0 <;> simp [h] <;> omega
  have e2 : (-(k : Int) - b64.qmin).toNat + k = 1074 := by rw [qmin_b64]; omega
  rw [signed_mul, e1, Int.mul_assoc, hD, ← Int.natCast_mul, ← Nat.pow_add, e2]
  rfl
theorem fin_of {x V : UInt64} (hn : val64 x ≠ .nan) (hV : DFin V) (h : zv x = zv V) : DFin x := by
  cases hx : val64 x with
  | nan => exact absurd hx hn
  | fin s c q => exact ⟨s, c, q, hx⟩
  | inf s =>
    exfalso
    have h1 := hV.zval_lt
    unfold zv zval at h
    rw [hx] at h
    have h2 := congrArg Int.natAbs h
    rw [natAbs_signed, natAbs_signed] at h2
    exact absurd h2.symm (Nat.ne_of_lt h1)
theorem Ra.scale {i i' : Int} {D D' : Nat} {x : UInt64} (h : Ra i D x) (hD : 0 < D) (e : i * (D' : Int) = i' * (D : Int)) : Ra i' D' x := by
  exact ⟨h.1, mulc (c := (D : Int)) (by omega) (al_scale h.2 e)⟩
theorem Ra.same {i i' : Int} {D : Nat} {x : UInt64} (h : Ra i D x) (e : i = i') : Ra i' D x := e ▸ h
theorem Ra.add {i j : Int} {D k : Nat} {x y : UInt64} (hx : Ra i D x) (hy : Ra j D y) (h : (i + j).natAbs < 9007199254740992) (hD : D = 2 ^ k) (hk : k ≤ 1000) : Ra (i + j) D (FP.dadd x y) := by
  obtain ⟨V, hV⟩ := rep h hD hk
  have hD0 : (D : Int) ≠ 0 := by rw [hD]; exact Int.ne_of_gt (Int.natCast_pos.mpr (Nat.two_pow_pos k))
  have hs : zval b64 (val64 x) + zval b64 (val64 y) = zval b64 (val64 V) := mulc hD0 (by
    have a := hx.2; have b := hy.2; have c := hV.2
    unfold zv at a b c
    rw [Int.add_mul, a, b, c, Int.add_mul])
  have hz : zv (Core.dadd x y) = zv V := by
    unfold zv
    rw [val64_dadd]
    exact Int.le_antisymm (sum_le good_b64 hx.1 hy.1 (val64_fits x) (val64_fits y) (val64_fits V) hV.ne_nan (Int.le_of_eq hs)) (sum_ge good_b64 hx.1 hy.1 (val64_fits x) (val64_fits y) (val64_fits V) hV.ne_nan (Int.le_of_eq hs.symm))
  exact ⟨fin_of ((notNaN_iff _).mp (dadd_out hx.1.notNaN hy.1)) hV.1 hz, by show zv (Core.dadd x y) * _ = _; rw [hz, hV.2]⟩
theorem fin_negate {x : UInt64} (h : DFin x) : ∃ s c q, negate (val64 x) = .fin s c q := by
  obtain ⟨s, c, q, h⟩ := h; exact ⟨!s, c, q, by rw [h]; rfl⟩
theorem Ra.sub {i j : Int} {D k : Nat} {x y : UInt64} (hx : Ra i D x) (hy : Ra j D y) (h : (i - j).natAbs < 9007199254740992) (hD : D = 2 ^ k) (hk : k ≤ 1000) : Ra (i - j) D (FP.dsub x y) := by
  obtain ⟨V, hV⟩ := rep h hD hk
  have hD0 : (D : Int) ≠ 0 := by rw [hD]; exact Int.ne_of_gt (Int.natCast_pos.mpr (Nat.two_pow_pos k))
  have hs : zval b64 (val64 x) + zval b64 (negate (val64 y)) = zval b64 (val64 V) := mulc hD0 (by
    have a := hx.2; have b := hy.2; have c := hV.2
    unfold zv at a b c
    rw [zval_negate, Int.add_mul, Int.neg_mul, a, b, c, Int.sub_mul]
    omega)
  have hz : zv (Core.dsub x y) = zv V := by
    unfold zv
    rw [val64_dsub]
    exact Int.le_antisymm (sum_le good_b64 hx.1 (fin_negate hy.1) (val64_fits x) (negate_fits (val64_fits y)) (val64_fits V) hV.ne_nan (Int.le_of_eq hs)) (sum_ge good_b64 hx.1 (fin_negate hy.1) (val64_fits x) (negate_fits (val64_fits y)) (val64_fits V) hV.ne_nan (Int.le_of_eq hs.symm))
  exact ⟨fin_of ((notNaN_iff _).mp (dsub_out hx.1.notNaN hy.1)) hV.1 hz, by show zv (Core.dsub x y) * _ = _; rw [hz, hV.2]⟩
theorem qq : (b64.qmin - 2 * b64.qmin).toNat = (-b64.qmin).toNat := by rw [qmin_b64]; decide
/-- a product, held against a double -/
theorem mul_le {x y V : UInt64} (hx : DFin x) (hy : DFin y) (hV : val64 V ≠ .nan) (h : zv x * zv y ≤ zv V * (one64 : Int)) : zv (Core.dmul x y) ≤ zv V := by
  obtain ⟨s, c, q, ex⟩ := hx
  obtain ⟨t, d, r, ey⟩ := hy
  have fx := val64_fits x; have fy := val64_fits y
  rw [ex] at fx; rw [ey] at fy
  obtain ⟨p1, p2, p3⟩ := product_units fx fy
  unfold zv at h ⊢
  rw [val64_dmul, ex, ey, p1]
  rw [ex, ey] at h
  exact zval_round_le good_b64 (val64_fits V) hV (e0 := 2 * b64.qmin) (by rw [qmin_b64]; decide) p2 (by rw [p3, signed_xor, qq, pow_qmin64]; exact h)
theorem mul_ge {x y V : UInt64} (hx : DFin x) (hy : DFin y) (hV : val64 V ≠ .nan) (h : zv V * (one64 : Int) ≤ zv x * zv y) : zv V ≤ zv (Core.dmul x y) := by
  obtain ⟨s, c, q, ex⟩ := hx
  obtain ⟨t, d, r, ey⟩ := hy
  have fx := val64_fits x; have fy := val64_fits y
  rw [ex] at fx; rw [ey] at fy
  obtain ⟨p1, p2, p3⟩ := product_units fx fy
  unfold zv at h ⊢
  rw [val64_dmul, ex, ey, p1]
  rw [ex, ey] at h
  exact zval_round_ge good_b64 (val64_fits V) hV (e0 := 2 * b64.qmin) (by rw [qmin_b64]; decide) p2 (by rw [p3, signed_xor, qq, pow_qmin64]; exact h)
/-- the product's worth, where it is a double's -/
theorem mul_zv {x y V : UInt64} (hx : DFin x) (hy : DFin y) (hV : val64 V ≠ .nan) (h : zv x * zv y = zv V * (one64 : Int)) : zv (Core.dmul x y) = zv V :=
  Int.le_antisymm (mul_le hx hy hV (Int.le_of_eq h)) (mul_ge hx hy hV (Int.le_of_eq h.symm))
theorem Ra.mul {i j : Int} {D E k : Nat} {x y : UInt64} (hx : Ra i D x) (hy : Ra j E y) (h : (i * j).natAbs < 9007199254740992) (hD : D * E = 2 ^ k) (hk : k ≤ 1000) : Ra (i * j) (D * E) (FP.dmul x y) := by
  obtain ⟨V, hV⟩ := rep h hD hk
  have hD0 : ((D * E : Nat) : Int) ≠ 0 := by rw [hD]; exact Int.ne_of_gt (Int.natCast_pos.mpr (Nat.two_pow_pos k))
  have hv := hV.2
  rw [Int.natCast_mul] at hv hD0
  have hs : zv x * zv y = zv V * (one64 : Int) := mulc hD0 (al_mul hx.2 hy.2 hv)
  have hz : zv (Core.dmul x y) = zv V := mul_zv hx.1 hy.1 hV.ne_nan hs
  exact ⟨fin_of ((notNaN_iff _).mp (dmul_out hx.1 hy.1)) hV.1 hz, by show zv (Core.dmul x y) * _ = _; rw [hz, hV.2]⟩
/-- a product written in its least terms -/
theorem Ra.mulr {i j r : Int} {D E F k : Nat} {x y : UInt64} (hx : Ra i D x) (hy : Ra j E y) (hD : 0 < D) (hE : 0 < E) (hr : r.natAbs < 9007199254740992) (hF : F = 2 ^ k) (hk : k ≤ 1000) (h : i * j * (F : Int) = r * ((D : Int) * (E : Int))) : Ra r F (FP.dmul x y) := by
  obtain ⟨V, hV⟩ := rep hr hF hk
  have hF0 : (F : Int) ≠ 0 := by rw [hF]; exact Int.ne_of_gt (Int.natCast_pos.mpr (Nat.two_pow_pos k))
  have hs : zv x * zv y = zv V * (one64 : Int) := by
    exact mulc (c := (D : Int)) (by omega) (mulc (c := (E : Int)) (by omega) (mulc hF0 (al_mulr hx.2 hy.2 hV.2 h)))
  have hz : zv (Core.dmul x y) = zv V := mul_zv hx.1 hy.1 hV.ne_nan hs
  exact ⟨fin_of ((notNaN_iff _).mp (dmul_out hx.1 hy.1)) hV.1 hz, by show zv (Core.dmul x y) * _ = _; rw [hz, hV.2]⟩
theorem zv_abs (x : UInt64) : (zv x).natAbs = zmag b64 (val64 x) := by unfold zv zval; rw [natAbs_signed]
/-- the quotient's parts -/
theorem div_parts {x y : UInt64} (hx : DFin x) (hy : DFin y) (hz : zv y ≠ 0) : ∃ s t c d q r, val64 x = .fin s c q ∧ val64 y = .fin t d r ∧ 0 < d ∧ b64.qmin ≤ q ∧ b64.qmin ≤ r ∧ zmag b64 (val64 x) = c * 2 ^ (q - b64.qmin).toNat ∧ zmag b64 (val64 y) = d * 2 ^ (r - b64.qmin).toNat ∧ val64 (Core.ddiv x y) = roundRatio b64 (s != t) c d (q - r) := by
  obtain ⟨s, c, q, ex⟩ := hx
  obtain ⟨t, d, r, ey⟩ := hy
  have fx := val64_fits x; have fy := val64_fits y
  rw [ex] at fx; rw [ey] at fy
  have hd : d ≠ 0 := fun h => hz (by unfold zv; rw [ey, h]; simp [zval, zmag, sgn, inUnits, signed])
  refine ⟨s, t, c, d, q, r, ex, ey, Nat.pos_of_ne_zero hd, fx.2.1, fy.2.1, by rw [ex]; rfl, by rw [ey]; rfl, ?_⟩
  rw [val64_ddiv, ex, ey]
  show (if d = 0 then _ else roundRatio b64 (s != t) c d (q - r)) = _
  rw [if_neg hd]
theorem div_units {c d V : Nat} {q r e : Int} (hq : b64.qmin ≤ q) (hr : b64.qmin ≤ r) (h1 : e ≤ b64.qmin) (h2 : e ≤ q - r) :
    inUnits c (q - r) e * 2 ^ (r - b64.qmin).toNat = (c * 2 ^ (q - b64.qmin).toNat * one64) * 2 ^ (b64.qmin - e).toNat ∧
      V * 2 ^ (b64.qmin - e).toNat * d * 2 ^ (r - b64.qmin).toNat = (V * (d * 2 ^ (r - b64.qmin).toNat)) * 2 ^ (b64.qmin - e).toNat := by
  refine ⟨?_, al_units⟩
  have hn : b64.qmin < 0 := by rw [qmin_b64]; decide
  unfold inUnits
  rw [← pow_qmin64, Nat.mul_assoc, Nat.mul_assoc, Nat.mul_assoc, ← Nat.pow_add, ← Nat.pow_add, ← Nat.pow_add]
  congr 2
  omega
theorem div_mag_le {x y V : UInt64} (hx : DFin x) (hy : DFin y) (hz : zv y ≠ 0) (hV : val64 V ≠ .nan) (h : (zv x).natAbs * one64 ≤ (zv V).natAbs * (zv y).natAbs) : (zv (Core.ddiv x y)).natAbs ≤ (zv V).natAbs := by
  obtain ⟨s, t, c, d, q, r, ex, ey, hd, hq, hr, mx, my, hv⟩ := div_parts hx hy hz
  rw [zv_abs, zv_abs, hv]
  rw [zv_abs, zv_abs, zv_abs, mx, my] at h
  refine zmag_roundRatio_le good_b64 hd (val64_fits V) hV (e0 := min b64.qmin (q - r)) (by omega) (by omega) ?_
  obtain ⟨u1, u2⟩ := div_units (c := c) (d := d) (V := zmag b64 (val64 V)) hq hr (e := min b64.qmin (q - r)) (by omega) (by omega)
  refine Nat.le_of_mul_le_mul_right (c := 2 ^ (r - b64.qmin).toNat) ?_ (Nat.two_pow_pos _)
  rw [u1, u2]
  exact Nat.mul_le_mul_right _ h
theorem div_mag_ge {x y V : UInt64} (hx : DFin x) (hy : DFin y) (hz : zv y ≠ 0) (h : (zv V).natAbs * (zv y).natAbs ≤ (zv x).natAbs * one64) : (zv V).natAbs ≤ (zv (Core.ddiv x y)).natAbs := by
  obtain ⟨s, t, c, d, q, r, ex, ey, hd, hq, hr, mx, my, hv⟩ := div_parts hx hy hz
  rw [zv_abs, zv_abs, hv]
  rw [zv_abs, zv_abs, zv_abs, mx, my] at h
  refine zmag_roundRatio_ge good_b64 hd (val64_fits V) (e0 := min b64.qmin (q - r)) (by omega) (by omega) ?_
  obtain ⟨u1, u2⟩ := div_units (c := c) (d := d) (V := zmag b64 (val64 V)) hq hr (e := min b64.qmin (q - r)) (by omega) (by omega)
  refine Nat.le_of_mul_le_mul_right (c := 2 ^ (r - b64.qmin).toNat) ?_ (Nat.two_pow_pos _)
  rw [u1, u2]
  exact Nat.mul_le_mul_right _ h
theorem zv_sgn (x : UInt64) : zv x = signed (sgn (val64 x)) (zv x).natAbs := by rw [zv_abs]; rfl
theorem div_sgn {x y : UInt64} (hx : DFin x) (hy : DFin y) (hz : zv y ≠ 0) : sgn (val64 (Core.ddiv x y)) = (sgn (val64 x) != sgn (val64 y)) := by
  obtain ⟨s, t, c, d, q, r, ex, ey, -, -, -, -, -, hv⟩ := div_parts hx hy hz
  rw [hv, sgn_roundRatio, ex, ey]; rfl
theorem sgn_pos {x : UInt64} (h : 0 < zv x) : sgn (val64 x) = false := by
  rw [zv_sgn] at h
  cases hs : sgn (val64 x) with
  | false => rfl
  | true => rw [hs] at h; simp [signed] at h; omega
theorem div_nonneg {x y : UInt64} (hx : DFin x) (hy : DFin y) (h1 : 0 < zv x) (h2 : 0 < zv y) : zv (Core.ddiv x y) = ((zv (Core.ddiv x y)).natAbs : Int) := by
  have h := div_sgn hx hy (Int.ne_of_gt h2)
  rw [sgn_pos h1, sgn_pos h2] at h
  rw [zv_sgn (Core.ddiv x y), h]; simp [signed]
theorem div_ge {x y V : UInt64} (hx : DFin x) (hy : DFin y) (h1 : 0 < zv x) (h2 : 0 < zv y) (hV : 0 ≤ zv V) (h : zv V * zv y ≤ zv x * (one64 : Int)) : zv V ≤ zv (Core.ddiv x y) := by
  have k : (zv V).natAbs * (zv y).natAbs ≤ (zv x).natAbs * one64 := by
    have e1 : ((zv V).natAbs : Int) = zv V := by omega
    have e2 : ((zv y).natAbs : Int) = zv y := by omega
    have e3 : ((zv x).natAbs : Int) = zv x := by omega
    refine Int.ofNat_le.mp ?_
    rw [Int.natCast_mul, Int.natCast_mul, e1, e2, e3]; exact h
  have := div_mag_ge hx hy (Int.ne_of_gt h2) k
  rw [div_nonneg hx hy h1 h2]; omega
theorem div_le {x y V : UInt64} (hx : DFin x) (hy : DFin y) (h1 : 0 < zv x) (h2 : 0 < zv y) (hn : val64 V ≠ .nan) (hV : 0 ≤ zv V) (h : zv x * (one64 : Int) ≤ zv V * zv y) : zv (Core.ddiv x y) ≤ zv V := by
  have k : (zv x).natAbs * one64 ≤ (zv V).natAbs * (zv y).natAbs := by
    have e1 : ((zv V).natAbs : Int) = zv V := by omega
    have e2 : ((zv y).natAbs : Int) = zv y := by omega
    have e3 : ((zv x).natAbs : Int) = zv x := by omega
    refine Int.ofNat_le.mp ?_
    rw [Int.natCast_mul, Int.natCast_mul, e1, e2, e3]; exact h
  have := div_mag_le hx hy (Int.ne_of_gt h2) hn k
  rw [div_nonneg hx hy h1 h2]; omega
theorem signed_inj {s t : Bool} {n : Nat} (hn : n ≠ 0) (h : signed s n = signed t n) : s = t := by
  cases s <;> cases t <;> simp [signed] at h ⊢ <;> omega
theorem xor_back {s t v : Bool} (h : s = (v != t)) : (s != t) = v := by cases s <;> cases t <;> cases v <;> simp_all
/-- the quotient's worth, where it is a double's -/
theorem div_zv {x y V : UInt64} (hx : DFin x) (hy : DFin y) (hz : zv y ≠ 0) (hV : DFin V) (h : zv x * (one64 : Int) = zv V * zv y) : zv (Core.ddiv x y) = zv V := by
  have ha : (zv x).natAbs * one64 = (zv V).natAbs * (zv y).natAbs := by
    have := congrArg Int.natAbs h
    rwa [Int.natAbs_mul, Int.natAbs_mul, Int.natAbs_natCast] at this
  have hm : (zv (Core.ddiv x y)).natAbs = (zv V).natAbs := Nat.le_antisymm (div_mag_le hx hy hz hV.ne_nan (Nat.le_of_eq ha)) (div_mag_ge hx hy hz (Nat.le_of_eq ha.symm))
  rw [zv_sgn (Core.ddiv x y), hm, div_sgn hx hy hz]
  by_cases h0 : (zv V).natAbs = 0
  · rw [h0, Int.natAbs_eq_zero.mp h0]; exact signed_zero _
  · have k : signed (sgn (val64 x)) ((zv x).natAbs * one64) = zv x * (one64 : Int) := by rw [signed_mul, ← zv_sgn]
    rw [ha] at k
    have k2 : signed (sgn (val64 V) != sgn (val64 y)) ((zv V).natAbs * (zv y).natAbs) = zv V * zv y := by rw [signed_xor, ← zv_sgn, ← zv_sgn]
    have e := xor_back (signed_inj (n := (zv V).natAbs * (zv y).natAbs) (Nat.mul_ne_zero h0 (fun q => hz (Int.natAbs_eq_zero.mp q))) (k.trans (h.trans k2.symm)))
    rw [e, ← zv_sgn]
theorem Ra.div {i j r : Int} {D E F k : Nat} {x y : UInt64} (hx : Ra i D x) (hy : Ra j E y) (hD : 0 < D) (hE : 0 < E) (hj : j ≠ 0) (hr : r.natAbs < 9007199254740992) (hF : F = 2 ^ k) (hk : k ≤ 1000) (h : i * (E : Int) * (F : Int) = r * (j * (D : Int))) : Ra r F (FP.ddiv x y) := by
  obtain ⟨V, hV⟩ := rep hr hF hk
  have hF0 : (F : Int) ≠ 0 := by rw [hF]; exact Int.ne_of_gt (Int.natCast_pos.mpr (Nat.two_pow_pos k))
  have hy0 : zv y ≠ 0 := fun q => by
    have := hy.2; rw [q, Int.zero_mul] at this
    exact (Int.mul_ne_zero hj (Int.ne_of_gt oz)) this.symm
  have hs : zv x * (one64 : Int) = zv V * zv y := by
    exact mulc (c := (D : Int)) (by omega) (mulc (c := (E : Int)) (by omega) (mulc hF0 (al_div hx.2 hy.2 hV.2 h)))
  have hz : zv (Core.ddiv x y) = zv V := div_zv hx.1 hy.1 hy0 hV.1 hs
  have hyz : ¬ DZero y := fun q => hy0 (by unfold zv; exact DZero.zval q)
  exact ⟨fin_of ((notNaN_iff _).mp (ddiv_out hx.1.notNaN hy.1 hyz)) hV.1 hz, by show zv (Core.ddiv x y) * _ = _; rw [hz, hV.2]⟩
/-- two quotients of one ratio are of one worth -/
theorem div_alike {x y x' y' : UInt64} (hx : DFin x) (hy : DFin y) (hx' : DFin x') (hy' : DFin y') (hz : zv y ≠ 0) (hz' : zv y' ≠ 0) (h : zv x * zv y' = zv x' * zv y) : zv (Core.ddiv x y) = zv (Core.ddiv x' y') := by
  have ha : (zv x).natAbs * (zv y').natAbs = (zv x').natAbs * (zv y).natAbs := by
    have := congrArg Int.natAbs h
    rwa [Int.natAbs_mul, Int.natAbs_mul] at this
  have hsg := div_sgn hx hy hz
  have hsg' := div_sgn hx' hy' hz'
  obtain ⟨s, t, c, d, q, r, ex, ey, hd, hq, hr, mx, my, hv⟩ := div_parts hx hy hz
  obtain ⟨s', t', c', d', q', r', ex', ey', hd', hq', hr', mx', my', hv'⟩ := div_parts hx' hy' hz'
  have hm : (zv (Core.ddiv x y)).natAbs = (zv (Core.ddiv x' y')).natAbs := by
    rw [zv_abs, zv_abs, zv_abs, zv_abs, mx, my, mx', my'] at ha
    rw [zv_abs, zv_abs, hv, hv']
    have e : roundRatio b64 (s != t) c d (q - r) = roundRatio b64 (s != t) c' d' (q' - r') := by
      refine roundRatio_congr hd hd' ?_
      have g1 : ∃ T, (q - b64.qmin).toNat + (r' - b64.qmin).toNat = (q - r - (q' - r')).toNat + T ∧ (q' - b64.qmin).toNat + (r - b64.qmin).toNat = (q' - r' - (q - r)).toNat + T := ⟨(min ((q - b64.qmin) + (r' - b64.qmin)) ((q' - b64.qmin) + (r - b64.qmin))).toNat, by omega, by omega⟩
      obtain ⟨T, g1, g2⟩ := g1
      refine Nat.eq_of_mul_eq_mul_right (Nat.two_pow_pos T) ?_
      calc c * d' * 2 ^ (q - r - (q' - r')).toNat * 2 ^ T = (c * 2 ^ (q - b64.qmin).toNat) * (d' * 2 ^ (r' - b64.qmin).toNat) := by rw [Nat.mul_assoc, ← Nat.pow_add, ← g1, Nat.pow_add]; ac_rfl
        _ = (c' * 2 ^ (q' - b64.qmin).toNat) * (d * 2 ^ (r - b64.qmin).toNat) := ha
        _ = c' * d * 2 ^ (q' - r' - (q - r)).toNat * 2 ^ T := by rw [Nat.mul_assoc (c' * d), ← Nat.pow_add, ← g2, Nat.pow_add]; ac_rfl
    rw [e]
    rcases roundRatio_cases b64 (s != t) c' d' (q' - r') with ⟨a, b, g⟩ | g <;> rcases roundRatio_cases b64 (s' != t') c' d' (q' - r') with ⟨a', b', g'⟩ | g'
    all_goals first
      | (have := negate_roundRatio b64 (s' != t') c' d' (q' - r')
         by_cases w : (s != t) = (s' != t')
         · rw [w]
         · rw [show (s != t) = !(s' != t') by cases s <;> cases t <;> cases s' <;> cases t' <;> simp_all, ← this]
           rw [g']; rfl)
  rw [zv_sgn (Core.ddiv x y), zv_sgn (Core.ddiv x' y'), hm, hsg, hsg']
  by_cases h0 : (zv (Core.ddiv x' y')).natAbs = 0
  · rw [h0, signed_zero, signed_zero]
  · by_cases hx0 : (zv x').natAbs = 0
    · exfalso; apply h0
      have := div_mag_le (V := (0 : UInt64)) hx' hy' hz' (by rw [val64_zero]; exact Datum.noConfusion) (by rw [hx0, Nat.zero_mul]; exact Nat.zero_le _)
      have z0 : zv 0 = 0 := zval64_zero
      rw [z0] at this; simpa using this
    · congr 1
      have hy1 : (zv y).natAbs ≠ 0 := fun q => hz (Int.natAbs_eq_zero.mp q)
      have k : signed (sgn (val64 x) != sgn (val64 y')) ((zv x').natAbs * (zv y).natAbs) = signed (sgn (val64 x') != sgn (val64 y)) ((zv x').natAbs * (zv y).natAbs) := by
        rw [← ha, signed_xor, ha, signed_xor, ← zv_sgn, ← zv_sgn, ← zv_sgn, ← zv_sgn]; exact h
      have k2 := signed_inj (Nat.mul_ne_zero hx0 hy1) k
      revert k2
      generalize sgn (val64 x) = a; generalize sgn (val64 y) = b; generalize sgn (val64 x') = a'; generalize sgn (val64 y') = b'
      cases a <;> cases b <;> cases a' <;> cases b' <;> simp
/-- comparisons -/
theorem cv_lt {x y : UInt64} (nx : val64 x ≠ .nan) (ny : val64 y ≠ .nan) (h : zv x < zv y) (o : Jvm.ClassFile.CmpOp) : Jvm.Op.cmpValue (FP.dcmp x y) o = -1 := by
  rw [show FP.dcmp x y = some .lt from dcmp_lt.mpr ⟨nx, ny, h⟩]; cases o <;> rfl
theorem cv_eq {x y : UInt64} (nx : val64 x ≠ .nan) (ny : val64 y ≠ .nan) (h : zv x = zv y) (o : Jvm.ClassFile.CmpOp) : Jvm.Op.cmpValue (FP.dcmp x y) o = 0 := by
  rw [show FP.dcmp x y = some .eq from dcmp_eq.mpr ⟨nx, ny, h⟩]; cases o <;> rfl
theorem cv_gt {x y : UInt64} (nx : val64 x ≠ .nan) (ny : val64 y ≠ .nan) (h : zv y < zv x) (o : Jvm.ClassFile.CmpOp) : Jvm.Op.cmpValue (FP.dcmp x y) o = 1 := by
  rw [show FP.dcmp x y = some .gt from dcmp_gt.mpr ⟨nx, ny, h⟩]; cases o <;> rfl
theorem cv_le {x y : UInt64} (nx : val64 x ≠ .nan) (ny : val64 y ≠ .nan) (h : zv x ≤ zv y) (o : Jvm.ClassFile.CmpOp) : ¬ (0 : Int32) < Jvm.Op.cmpValue (FP.dcmp x y) o := by
  rcases Int.lt_or_eq_of_le h with q | q
  · rw [cv_lt nx ny q]; decide
  · rw [cv_eq nx ny q]; decide
theorem cv_ge {x y : UInt64} (nx : val64 x ≠ .nan) (ny : val64 y ≠ .nan) (h : zv y ≤ zv x) (o : Jvm.ClassFile.CmpOp) : ¬ Jvm.Op.cmpValue (FP.dcmp x y) o < (0 : Int32) := by
  rcases Int.lt_or_eq_of_le h with q | q
  · rw [cv_gt nx ny q]; decide
  · rw [cv_eq nx ny q.symm]; decide
theorem cv_lt' {x y : UInt64} (nx : val64 x ≠ .nan) (ny : val64 y ≠ .nan) (h : zv x < zv y) (o : Jvm.ClassFile.CmpOp) : Jvm.Op.cmpValue (FP.dcmp x y) o < (0 : Int32) := by rw [cv_lt nx ny h]; decide
theorem cv_gt' {x y : UInt64} (nx : val64 x ≠ .nan) (ny : val64 y ≠ .nan) (h : zv y < zv x) (o : Jvm.ClassFile.CmpOp) : (0 : Int32) < Jvm.Op.cmpValue (FP.dcmp x y) o := by rw [cv_gt nx ny h]; decide
theorem zv_lt {i j : Int} {D : Nat} {x y : UInt64} (hx : Ra i D x) (hy : Ra j D y) (hD : 0 < D) (h : i < j) : zv x < zv y := by
  refine Int.lt_of_mul_lt_mul_right (a := (D : Int)) ?_ (by omega)
  rw [hx.2, hy.2]; exact Int.mul_lt_mul_of_pos_right h oz
theorem zv_eq {i j : Int} {D : Nat} {x y : UInt64} (hx : Ra i D x) (hy : Ra j D y) (hD : 0 < D) (h : i = j) : zv x = zv y :=
  mulc (c := (D : Int)) (by omega) (by rw [hx.2, hy.2, h])
theorem Ra.lt {i j : Int} {D : Nat} {x y : UInt64} (hx : Ra i D x) (hy : Ra j D y) (hD : 0 < D) (h : i < j) (o : Jvm.ClassFile.CmpOp) : Jvm.Op.cmpValue (FP.dcmp x y) o = -1 := cv_lt hx.ne_nan hy.ne_nan (zv_lt hx hy hD h) o
theorem Ra.gt {i j : Int} {D : Nat} {x y : UInt64} (hx : Ra i D x) (hy : Ra j D y) (hD : 0 < D) (h : j < i) (o : Jvm.ClassFile.CmpOp) : Jvm.Op.cmpValue (FP.dcmp x y) o = 1 := cv_gt hx.ne_nan hy.ne_nan (zv_lt hy hx hD h) o
theorem Ra.eq {i j : Int} {D : Nat} {x y : UInt64} (hx : Ra i D x) (hy : Ra j D y) (hD : 0 < D) (h : i = j) (o : Jvm.ClassFile.CmpOp) : Jvm.Op.cmpValue (FP.dcmp x y) o = 0 := cv_eq hx.ne_nan hy.ne_nan (zv_eq hx hy hD h) o
theorem zv_le {i j : Int} {D : Nat} {x y : UInt64} (hx : Ra i D x) (hy : Ra j D y) (hD : 0 < D) (h : i ≤ j) : zv x ≤ zv y := by
  rcases Int.lt_or_eq_of_le h with q | q
  · exact Int.le_of_lt (zv_lt hx hy hD q)
  · exact Int.le_of_eq (zv_eq hx hy hD q)
theorem Ra.le {i j : Int} {D : Nat} {x y : UInt64} (hx : Ra i D x) (hy : Ra j D y) (hD : 0 < D) (h : i ≤ j) (o : Jvm.ClassFile.CmpOp) : ¬ (0 : Int32) < Jvm.Op.cmpValue (FP.dcmp x y) o := cv_le hx.ne_nan hy.ne_nan (zv_le hx hy hD h) o
theorem Ra.ge {i j : Int} {D : Nat} {x y : UInt64} (hx : Ra i D x) (hy : Ra j D y) (hD : 0 < D) (h : j ≤ i) (o : Jvm.ClassFile.CmpOp) : ¬ Jvm.Op.cmpValue (FP.dcmp x y) o < (0 : Int32) := cv_ge hx.ne_nan hy.ne_nan (zv_le hy hx hD h) o
theorem Ra.lt' {i j : Int} {D : Nat} {x y : UInt64} (hx : Ra i D x) (hy : Ra j D y) (hD : 0 < D) (h : i < j) (o : Jvm.ClassFile.CmpOp) : Jvm.Op.cmpValue (FP.dcmp x y) o < (0 : Int32) := cv_lt' hx.ne_nan hy.ne_nan (zv_lt hx hy hD h) o
theorem Ra.gt' {i j : Int} {D : Nat} {x y : UInt64} (hx : Ra i D x) (hy : Ra j D y) (hD : 0 < D) (h : j < i) (o : Jvm.ClassFile.CmpOp) : (0 : Int32) < Jvm.Op.cmpValue (FP.dcmp x y) o := cv_gt' hx.ne_nan hy.ne_nan (zv_lt hy hx hD h) o
theorem Ra.of_int {i : Int} {x : UInt64} (h : DInt i x) (hf : DFin x) : Ra i 1 x := ⟨hf, by show zval b64 (val64 x) * _ = _; rw [DInt_zval h]; show _ * (1 : Int) = _; rw [Int.mul_one]⟩
theorem Ra.i2d (a : Int32) : Ra a.toInt 1 (FP.i2d a) := Ra.of_int (i2d_int a) (Core.i2d_fin a)
theorem Ra.l2d {a : Int64} (h : a.toInt.natAbs ≤ 9007199254740992) : Ra a.toInt 1 (FP.l2d a) := Ra.of_int (l2d_int h) (Core.l2d_fin a)
/-- a written constant -/
theorem Ra.lit {x : UInt64} {s : Bool} {c D n : Nat} {q i : Int} {k : Nat} (h : val64 x = .fin s c q) (hD : D = 2 ^ k) (hq : q = -((k + n : Nat) : Int)) (hk : k + n ≤ 1074) (e : signed s c = i * ((2 ^ n : Nat) : Int)) : Ra i D x := by
  refine ⟨⟨s, c, q, h⟩, ?_⟩
  unfold zv
  rw [h]
  show signed s (inUnits c q b64.qmin) * _ = _
  unfold inUnits
  have e2 : n + (q - b64.qmin).toNat + k = 1074 := by rw [qmin_b64]; omega
  rw [signed_mul, e, hD, Int.mul_assoc, Int.mul_assoc, ← Int.natCast_mul, ← Int.natCast_mul, ← Nat.pow_add, ← Nat.pow_add, ← Nat.add_assoc, e2]
  rfl
theorem zv_neg (x : UInt64) : zv (FP.dneg x) = -zv x := by unfold zv; rw [Jvm.FP.val64_dneg, zval_negate]
theorem Ra.neg {i : Int} {D : Nat} {x : UInt64} (h : Ra i D x) : Ra (-i) D (FP.dneg x) := by
  obtain ⟨⟨s, c, q, ex⟩, e⟩ := h
  exact ⟨⟨!s, c, q, by rw [Jvm.FP.val64_dneg, ex]; rfl⟩, by rw [zv_neg, Int.neg_mul, e, Int.neg_mul]⟩
/-- exact products of longs -/
theorem lmul_of {x y : Int64} {a b : Int} (hx : x.toInt = a) (hy : y.toInt = b) (h1 : -9223372036854775808 ≤ a * b) (h2 : a * b < 9223372036854775808) : (x * y).toInt = a * b := by
  rw [int64_mul (by rw [hx, hy]; exact h1) (by rw [hx, hy]; exact h2), hx, hy]
theorem ladd_of {x y : Int64} {a b : Int} (hx : x.toInt = a) (hy : y.toInt = b) (h1 : -9223372036854775808 ≤ a + b) (h2 : a + b < 9223372036854775808) : (x + y).toInt = a + b := by
  rw [int64_add (by rw [hx, hy]; exact h1) (by rw [hx, hy]; exact h2), hx, hy]
theorem lsub_of {x y : Int64} {a b : Int} (hx : x.toInt = a) (hy : y.toInt = b) (h1 : -9223372036854775808 ≤ a - b) (h2 : a - b < 9223372036854775808) : (x - y).toInt = a - b := by
  rw [int64_sub (by rw [hx, hy]; exact h1) (by rw [hx, hy]; exact h2), hx, hy]
theorem lneg_of {x : Int64} {a : Int} (hx : x.toInt = a) (h1 : -9223372036854775808 < a) : (-x).toInt = -a := by
  rw [int64_neg (by rw [hx]; exact h1), hx]
theorem i2l_of {x : Int32} {a : Int} (hx : x.toInt = a) : x.toInt64.toInt = a := by rw [Int32.toInt_toInt64, hx]
theorem fin_of_le {x V : UInt64} (hn : val64 x ≠ .nan) (hV : DFin V) (h : (zv x).natAbs ≤ (zv V).natAbs) : DFin x := by
  cases hx : val64 x with
  | nan => exact absurd hx hn
  | fin s c q => exact ⟨s, c, q, hx⟩
  | inf s =>
    exfalso
    have h1 := hV.zval_lt
    rw [zv_abs, zv_abs, hx] at h
    exact absurd (Nat.lt_of_le_of_lt h h1) (Nat.lt_irrefl _)
/-- a bound on the worth bounds the bits -/
theorem mag_of {x : UInt64} {n : Nat} (hx : DFin x) (h : (zv x).natAbs ≤ 2 ^ n * one64) : Mag64 (n + 1024) x := by
  have z := zmag_bits hx.ne_nan
  rw [zv_abs, z] at h
  have hs : unitsOf b64 ((n + 1024) * b64.tails) = b64.tails * 2 ^ (n + 1024 - 1) := unitsOf_start (by omega)
  have ho : 2 ^ n * one64 < b64.tails * 2 ^ (n + 1024 - 1) := by
    rw [tails_b64, ← pow_qmin64, ← Nat.pow_add, ← Nat.pow_add, qmin_b64]
    exact Nat.pow_lt_pow_right (by decide) (by omega)
  have hl : unitsOf b64 (x.toNat % 2 ^ 63) < unitsOf b64 ((n + 1024) * b64.tails) := by rw [hs]; exact Nat.lt_of_le_of_lt h ho
  have hb := unitsOf_lt_iff.mp hl
  rw [tails_b64] at hb
  unfold Mag64
  exact hb
theorem Ra.mag {i : Int} {D n : Nat} {x : UInt64} (h : Ra i D x) (hD : 0 < D) (hi : i.natAbs ≤ 2 ^ n * D) : Mag64 (n + 1024) x := by
  refine mag_of h.1 (Nat.le_of_mul_le_mul_right (c := D) ?_ hD)
  have e := congrArg Int.natAbs h.2
  rw [Int.natAbs_mul, Int.natAbs_mul, Int.natAbs_natCast, Int.natAbs_natCast] at e
  rw [e]
  exact al_mag hi
theorem big_of {x : UInt64} (hx : DFin x) (h : one64 ≤ (zv x).natAbs) : Jvm.RoadKit.Big64 1023 x := by
  have z := zmag_bits hx.ne_nan
  rw [zv_abs, z] at h
  have hs : unitsOf b64 (1023 * b64.tails) = b64.tails * 2 ^ (1023 - 1) := unitsOf_start (by decide)
  have ho : b64.tails * 2 ^ (1023 - 1) = one64 := by rw [tails_b64, ← pow_qmin64, ← Nat.pow_add, qmin_b64]; rfl
  have hl : unitsOf b64 (1023 * b64.tails) ≤ unitsOf b64 (x.toNat % 2 ^ 63) := by rw [hs, ho]; exact h
  have hb := unitsOf_le_iff.mp hl
  rw [tails_b64] at hb
  have hf := (fin_bits x).mp hx
  exact ⟨hb, by omega⟩
theorem Ra.big {i : Int} {x : UInt64} (h : Ra i 1 x) (hi : i ≠ 0) : Jvm.RoadKit.Big64 1023 x := by
  refine big_of h.1 ?_
  have e := congrArg Int.natAbs h.2
  rw [Int.natAbs_mul, Int.natAbs_mul, Int.natAbs_natCast, Int.natAbs_natCast, Nat.mul_one] at e
  rw [e]
  exact Nat.le_mul_of_pos_left _ (Int.natAbs_pos.mpr hi)
theorem ra_zero : Ra 0 1 (0 : UInt64) := ⟨⟨_, _, _, val64_zero⟩, by rw [show zv 0 = 0 from zval64_zero, Int.zero_mul, Int.zero_mul]⟩
theorem ra_one : Ra 1 1 (4607182418800017408 : UInt64) := Ra.lit (s := false) (c := 4503599627370496) (q := -52) (k := 0) (n := 52) (by decide +kernel) rfl (by decide) (by decide) (by decide)
theorem ra_two : Ra 2 1 (4611686018427387904 : UInt64) := Ra.lit (s := false) (c := 4503599627370496) (q := -51) (k := 0) (n := 51) (by decide +kernel) rfl (by decide) (by decide) (by decide)
end Jvm.OwnFP
namespace Jvm.OwnFP
open Jvm.FP Jvm.FP.Core Jvm.Free.Fl Native.java_lang_Math.nans
theorem pick_self (g : Bool) (a : UInt64) : pick64 g a a = a := by unfold pick64; split <;> simp
theorem pick_lt {i j : Int} {D : Nat} {x y : UInt64} (hx : Ra i D x) (hy : Ra j D y) (hD : 0 < D) (h : i < j) (g : Bool) : pick64 g x y = if g then y else x := by
  unfold pick64; rw [show FP.dcmp x y = some .lt from dcmp_lt.mpr ⟨hx.ne_nan, hy.ne_nan, zv_lt hx hy hD h⟩]
theorem pick_gt {i j : Int} {D : Nat} {x y : UInt64} (hx : Ra i D x) (hy : Ra j D y) (hD : 0 < D) (h : j < i) (g : Bool) : pick64 g x y = if g then x else y := by
  unfold pick64; rw [show FP.dcmp x y = some .gt from dcmp_gt.mpr ⟨hx.ne_nan, hy.ne_nan, zv_lt hy hx hD h⟩]
end Jvm.OwnFP
namespace Jvm.Pilot.@@N@@
open Jvm Jvm.ClassFile Sem Op Lib Jvm.Free Jvm.Stand Jvm.LawKit Jvm.RoadKit Bundle Jvm.Pilot.@@N@@.Jvm.D
theorem d15_0 : decode jdk_117_method_6_code 0 = .ok (.dload_n 0, 1) := by decide +kernel
theorem d15_1 : decode jdk_117_method_6_code 1 = .ok (.dload_n 0, 1) := by decide +kernel
theorem d15_2 : decode jdk_117_method_6_code 2 = .ok (.dcmp .l, 1) := by decide +kernel
theorem d15_3 : decode jdk_117_method_6_code 3 = .ok (.ifCond .eq 7, 3) := by decide +kernel
theorem d15_10 : decode jdk_117_method_6_code 10 = .ok (.iconst 0, 1) := by decide +kernel
theorem d15_11 : decode jdk_117_method_6_code 11 = .ok (.ireturn, 1) := by decide +kernel
theorem pn_java_lang_Double : plainName "java/lang/Double" = true := by first | (simp [plainName, overriddenIn]; done) | decide +kernel
theorem ef_15_D (m : MethodId) (x0 : UInt64) : entryFrame m #[(.double x0)] 2 = mkF m 0 #[.val (.double x0), .second] [] := by first | (simp [entryFrame, mkF, argsToLocals, Value.category]; done) | rfl
def Q_rm15 (Z : State) (d0 : UInt64) (h0 : Heap) (n0 : Nat) (v : Option Value) (h : Heap) (L : List Loc) : Prop := v = some (.int (0 : Int32)) ∧ Fr n0 L ∧ h = h0
set_option maxRecDepth 65536 in
set_option maxHeartbeats 40000000 in
theorem rm15 (l : Launch) (Z : State) (a0 : Array Value) (hw : ∀ d ∈ tables_1, d.before a0 Z = true) (ws : List Jvm.Cond) (d0 : UInt64) (h0 : Heap) (n0 : Nat) (Z0 : n0 ≤ h0.size) (hd2 : (cmpValue (FP.dcmp d0 d0) .l) = (0 : Int32)) :
    MetFree l (⟨"java/lang/Double", "isNaN", "(D)Z"⟩ : MethodName) (head1 (Jvm.Cond.code (⟨"java/lang/Double", "isNaN", "(D)Z"⟩ : MethodName) jdk_117_method_6_code 2 (some .boolean) :: ws) ({ frames := 0, cells := 0, slots := 0, locals := 0 } : Room)) (fun a U => a = #[(.double d0)] ∧ Z.Warmed39 U.vm ∧ U.heap = h0) (fun _ _ _ _ _ => True) (fun _ U o U' => ∃ v L, o = .returned v ∧ Q_rm15 Z d0 h0 n0 v U'.heap L ∧ FrameEnd U o U' L ({ frames := 0, cells := 0, slots := 0, locals := 0 } : Room).cells ({ frames := 0, cells := 0, slots := 0, locals := 0 } : Room).slots) := by
  refine MetFree.of_bodySF (plainFor_of_name pn_java_lang_Double) hisR ?_
  intro p e s m args below meth c s₁ Bd hml0 hP hK
  obtain ⟨rfl, hZ, hh⟩ := hP
  have hx := Bd.exec
  have hby := Bd.bytes
  have hml : c.maxLocals = 2 := hml0
  have hown : s.vm.findClass "java/lang/Double" = some m.cls := findClass_of_methodNamed Bd.named
  have hnm := (name_of_methodNamed Bd.named Bd.method).1
  have X0 : Stand p l e ({ frames := 0, cells := 0, slots := 0, locals := 0 } : Room) s m #[(.double d0)] below meth c s₁ [] 0 0 := Stand.of_body Bd
  have e0 : s₁.heap = h0 := by rw [← hh, Bd.state]; rfl
  have N0 := Fr.nil n0
  have pre0 : ∀ t, Steps p.tables e below (s₁.setTop (mkF m 0 #[.val (.double d0), .second] [])) t → Steps p.tables e below (s₁.setTop (entryFrame m #[(.double d0)] 2)) t := fun t k => castTop (ef_15_D m d0) k
  obtain ⟨fs, hr, hrun, hended, hW, hsame⟩ := X0.leave (v := some (.int (0 : Int32))) (fun h => by rw [Bd.returns] at h; cases h)
  refine ⟨_, _, pre0 _ ?_, hrun, hended, _, _, rfl, ?_, ⟨_, rfl⟩, hW, hsame.mono (by decide) (by decide)⟩
  · show Steps p.tables e below (s₁.setTop (mkF m 0 #[.val (.double d0), .second] [])) _
    refine XS.dloadN X0.here hx rfl (hb hby d15_0) rfl ?_
    show Steps p.tables e below (s₁.setTop (mkF m 1 #[.val (.double d0), .second] [(.double d0)])) _
    refine XS.dloadN X0.here hx rfl (hb hby d15_1) rfl ?_
    show Steps p.tables e below (s₁.setTop (mkF m 2 #[.val (.double d0), .second] [(.double d0), (.double d0)])) _
    refine XS.dcmpS X0.here hx rfl (hb hby d15_2) rfl (v := (0 : Int32)) hd2 ?_
    show Steps p.tables e below (s₁.setTop (mkF m 3 #[.val (.double d0), .second] [(.int (0 : Int32))])) _
    refine XS.ifYes X0.here hx rfl (pc0 := 3) (pc' := 10) rfl (hb hby d15_3) rfl ((if0 _ _).trans (teq (by decide : (0 : Int32) = (0 : Int32))).1) (by decide) (by decide) ?_
    show Steps p.tables e below (s₁.setTop (mkF m 10 #[.val (.double d0), .second] [])) _
    refine XS.iconst X0.here hx rfl (hb hby d15_10) ?_
    show Steps p.tables e below (s₁.setTop (mkF m 11 #[.val (.double d0), .second] [(.int (0 : Int32))])) _
    exact retN X0 hx (t := .boolean) Bd.returns (by simp) (hb hby d15_11) hr
  · show Q_rm15 Z d0 h0 n0 _ s₁.heap _
    rw [e0]
    exact ⟨rfl, N0, rfl⟩
theorem d14_0 : decode jdk_117_method_23_code 0 = .ok (.dload_n 0, 1) := by decide +kernel
theorem d14_1 : decode jdk_117_method_23_code 1 = .ok (.invokestatic 122, 3) := by decide +kernel
theorem pd_0 : parseMethodDescriptor "(D)Z" = some ⟨[.double], some .boolean⟩ := by decide +kernel
theorem d14_4 : decode jdk_117_method_23_code 4 = .ok (.ifCond .ne 8, 3) := by decide +kernel
theorem d14_7 : decode jdk_117_method_23_code 7 = .ok (.dload_n 0, 1) := by decide +kernel
theorem d14_8 : decode jdk_117_method_23_code 8 = .ok (.invokestatic 134, 3) := by decide +kernel
theorem d14_11 : decode jdk_117_method_23_code 11 = .ok (.lreturn, 1) := by decide +kernel
theorem ef_14_D (m : MethodId) (x0 : UInt64) : entryFrame m #[(.double x0)] 2 = mkF m 0 #[.val (.double x0), .second] [] := by first | (simp [entryFrame, mkF, argsToLocals, Value.category]; done) | rfl
def Q_rm14 (Z : State) (d0 : UInt64) (h0 : Heap) (n0 : Nat) (v : Option Value) (h : Heap) (L : List Loc) : Prop := v = some (.long (d0.toInt64)) ∧ Fr n0 L ∧ h = h0
set_option maxRecDepth 65536 in
set_option maxHeartbeats 40000000 in
theorem rm14 (l : Launch) (Z : State) (a0 : Array Value) (hw : ∀ d ∈ tables_1, d.before a0 Z = true) (ws : List Jvm.Cond) (d0 : UInt64) (h0 : Heap) (n0 : Nat) (Z0 : n0 ≤ h0.size) (hd2_1 : (cmpValue (FP.dcmp d0 d0) .l) = (0 : Int32)) :
    MetFree l (⟨"java/lang/Double", "doubleToLongBits", "(D)J"⟩ : MethodName) (head1 (Jvm.Cond.code (⟨"java/lang/Double", "doubleToLongBits", "(D)J"⟩ : MethodName) jdk_117_method_23_code 2 (some .long) :: ws) ({ frames := 1, cells := 0, slots := 0, locals := 15 } : Room)) (fun a U => a = #[(.double d0)] ∧ Z.Warmed39 U.vm ∧ U.heap = h0) (fun _ _ _ _ _ => True) (fun _ U o U' => ∃ v L, o = .returned v ∧ Q_rm14 Z d0 h0 n0 v U'.heap L ∧ FrameEnd U o U' L ({ frames := 1, cells := 0, slots := 0, locals := 15 } : Room).cells ({ frames := 1, cells := 0, slots := 0, locals := 15 } : Room).slots) := by
  refine MetFree.of_bodySF (plainFor_of_name pn_java_lang_Double) hisR ?_
  intro p e s m args below meth c s₁ Bd hml0 hP hK
  obtain ⟨rfl, hZ, hh⟩ := hP
  have hx := Bd.exec
  have hby := Bd.bytes
  have hml : c.maxLocals = 2 := hml0
  have hown : s.vm.findClass "java/lang/Double" = some m.cls := findClass_of_methodNamed Bd.named
  have hnm := (name_of_methodNamed Bd.named Bd.method).1
  have X0 : Stand p l e ({ frames := 1, cells := 0, slots := 0, locals := 15 } : Room) s m #[(.double d0)] below meth c s₁ [] 0 0 := Stand.of_body Bd
  have e0 : s₁.heap = h0 := by rw [← hh, Bd.state]; rfl
  have N0 := Fr.nil n0
  have pre0 : ∀ t, Steps p.tables e below (s₁.setTop (mkF m 0 #[.val (.double d0), .second] [])) t → Steps p.tables e below (s₁.setTop (entryFrame m #[(.double d0)] 2)) t := fun t k => castTop (ef_14_D m d0) k
  obtain ⟨_, _, ⟨T1, L1, k1, n1⟩, -, X1, ⟨Lc1, hQ1, l1, y1, z1⟩, st1⟩ := Jvm.LawKit.callS X0 hx (y := (⟨"java/lang/Double", "isNaN", "(D)Z"⟩ : MethodName)) hown (mvT hZ (hw _ (List.mem_of_getElem? (i := 72) rfl))) (mvT hZ (hw _ (List.mem_of_getElem? (i := 73) rfl))) (mvT hZ (hw _ (List.mem_of_getElem? (i := 70) rfl))) (mvT hZ (hw _ (List.mem_of_getElem? (i := 74) rfl))) (by decide) (backOf (W := 0) (rm15 l Z a0 hw [] d0 h0 n0 Z0 hd2_1) hZ (hw _ (List.mem_of_getElem? (i := 74) rfl)) (hw _ (List.mem_of_getElem? (i := 70) rfl)) (by decide) (by decide)) (g := (mkF m 1 #[.val (.double d0), .second] [(.double d0)])) rfl (by rw [hml]; rfl) (argsL := [(.double d0)]) (rest := []) (lenOf pd_0 rfl) rfl (by show 2 * 0 + _ ≤ _; exact Nat.le_of_eq rfl) (hb hby d14_1) (fun _ _ => ⟨rfl, e0, (by decide : 0 + 0 ≤ _), (by decide : 0 + 0 ≤ _)⟩)
  dsimp only [Pt.U, Pt.locs, Pt.cells, Pt.slots] at X1 l1 y1 z1 st1 hQ1
  subst l1 y1 z1
  obtain ⟨rfl, N1q, eh1⟩ := hQ1
  have N1 := Fr.app N0 N1q
  have e1 : T1.heap = h0 := eh1
  obtain ⟨T2, X2, e2, st2⟩ := own_bits X1 hx hZ hown (hw _ (List.mem_of_getElem? (i := 75) rfl)) (hw _ (List.mem_of_getElem? (i := 76) rfl)) (hw _ (List.mem_of_getElem? (i := 70) rfl)) (hw _ (List.mem_of_getElem? (i := 77) rfl)) e1 (W := 0) (g := (mkF m 8 #[.val (.double d0), .second] [(.double d0)])) rfl (by rw [hml]; rfl) rfl (by show 2 * 0 + _ ≤ _; exact Nat.le_of_eq rfl) (hb hby d14_8) (by decide) (by decide)
  obtain ⟨fs, hr, hrun, hended, hW, hsame⟩ := X2.leave (v := some (.long (d0.toInt64))) (fun h => by rw [Bd.returns] at h; cases h)
  refine ⟨_, _, pre0 _ ?_, hrun, hended, _, _, rfl, ?_, ⟨_, rfl⟩, hW, hsame.mono (by decide) (by decide)⟩
  · show Steps p.tables e below (s₁.setTop (mkF m 0 #[.val (.double d0), .second] [])) _
    refine XS.dloadN X0.here hx rfl (hb hby d14_0) rfl ?_
    show Steps p.tables e below (s₁.setTop (mkF m 1 #[.val (.double d0), .second] [(.double d0)])) _
    refine st1 _ ?_
    show Steps p.tables e below (T1.setTop (mkF m 4 #[.val (.double d0), .second] [(.int (0 : Int32))])) _
    refine XS.ifNo X1.here hx rfl (hb hby d14_4) rfl ((if0 _ _).trans (teq (by decide : (0 : Int32) = (0 : Int32))).2) ?_
    show Steps p.tables e below (T1.setTop (mkF m 7 #[.val (.double d0), .second] [])) _
    refine XS.dloadN X1.here hx rfl (hb hby d14_7) rfl ?_
    show Steps p.tables e below (T1.setTop (mkF m 8 #[.val (.double d0), .second] [(.double d0)])) _
    refine st2 _ ?_
    show Steps p.tables e below (T2.setTop (mkF m 11 #[.val (.double d0), .second] [(.long (d0.toInt64))])) _
    exact retOut X2 hx Bd.returns rfl (Or.inr (Or.inl ⟨rfl, rfl, _, rfl⟩)) (hb hby d14_11) hr
  · show Q_rm14 Z d0 h0 n0 _ T2.heap _
    rw [e2]
    exact ⟨rfl, N1, rfl⟩
theorem d10_0 : decode jdk_65_method_71_code 0 = .ok (.iload_n 1, 1) := by decide +kernel
theorem d10_1 : decode jdk_65_method_71_code 1 = .ok (.istore 5, 2) := by decide +kernel
theorem d10_3 : decode jdk_65_method_71_code 3 = .ok (.iload_n 2, 1) := by decide +kernel
theorem d10_4 : decode jdk_65_method_71_code 4 = .ok (.iconst 1, 1) := by decide +kernel
theorem d10_5 : decode jdk_65_method_71_code 5 = .ok (.isub, 1) := by decide +kernel
theorem d10_6 : decode jdk_65_method_71_code 6 = .ok (.istore 6, 2) := by decide +kernel
theorem d10_8 : decode jdk_65_method_71_code 8 = .ok (.iload 5, 2) := by decide +kernel
theorem d10_10 : decode jdk_65_method_71_code 10 = .ok (.iload 6, 2) := by decide +kernel
theorem d10_12 : decode jdk_65_method_71_code 12 = .ok (.if_icmp .gt 100, 3) := by decide +kernel
theorem d10_15 : decode jdk_65_method_71_code 15 = .ok (.iload 5, 2) := by decide +kernel
theorem d10_17 : decode jdk_65_method_71_code 17 = .ok (.iload 6, 2) := by decide +kernel
theorem d10_19 : decode jdk_65_method_71_code 19 = .ok (.iadd, 1) := by decide +kernel
theorem d10_20 : decode jdk_65_method_71_code 20 = .ok (.iconst 1, 1) := by decide +kernel
theorem d10_21 : decode jdk_65_method_71_code 21 = .ok (.iushr, 1) := by decide +kernel
theorem d10_22 : decode jdk_65_method_71_code 22 = .ok (.istore 7, 2) := by decide +kernel
theorem d10_24 : decode jdk_65_method_71_code 24 = .ok (.aload_n 0, 1) := by decide +kernel
theorem d10_25 : decode jdk_65_method_71_code 25 = .ok (.iload 7, 2) := by decide +kernel
theorem d10_27 : decode jdk_65_method_71_code 27 = .ok (.daload, 1) := by decide +kernel
theorem d10_28 : decode jdk_65_method_71_code 28 = .ok (.dstore 8, 2) := by decide +kernel
theorem d10_30 : decode jdk_65_method_71_code 30 = .ok (.dload 8, 2) := by decide +kernel
theorem d10_32 : decode jdk_65_method_71_code 32 = .ok (.dload_n 3, 1) := by decide +kernel
theorem d10_33 : decode jdk_65_method_71_code 33 = .ok (.dcmp .g, 1) := by decide +kernel
theorem d10_34 : decode jdk_65_method_71_code 34 = .ok (.ifCond .ge 12, 3) := by decide +kernel
theorem d10_46 : decode jdk_65_method_71_code 46 = .ok (.dload 8, 2) := by decide +kernel
theorem d10_48 : decode jdk_65_method_71_code 48 = .ok (.dload_n 3, 1) := by decide +kernel
theorem d10_49 : decode jdk_65_method_71_code 49 = .ok (.dcmp .l, 1) := by decide +kernel
theorem d10_50 : decode jdk_65_method_71_code 50 = .ok (.ifCond .le 12, 3) := by decide +kernel
theorem d10_53 : decode jdk_65_method_71_code 53 = .ok (.iload 7, 2) := by decide +kernel
theorem d10_55 : decode jdk_65_method_71_code 55 = .ok (.iconst 1, 1) := by decide +kernel
theorem d10_56 : decode jdk_65_method_71_code 56 = .ok (.isub, 1) := by decide +kernel
theorem d10_57 : decode jdk_65_method_71_code 57 = .ok (.istore 6, 2) := by decide +kernel
theorem d10_59 : decode jdk_65_method_71_code 59 = .ok (.goto 50, 3) := by decide +kernel
theorem d10_109 : decode jdk_65_method_71_code 109 = .ok (.goto (-101), 3) := by decide +kernel
theorem d10_112 : decode jdk_65_method_71_code 112 = .ok (.iload 5, 2) := by decide +kernel
theorem d10_114 : decode jdk_65_method_71_code 114 = .ok (.iconst 1, 1) := by decide +kernel
theorem d10_115 : decode jdk_65_method_71_code 115 = .ok (.iadd, 1) := by decide +kernel
theorem d10_116 : decode jdk_65_method_71_code 116 = .ok (.ineg, 1) := by decide +kernel
theorem d10_117 : decode jdk_65_method_71_code 117 = .ok (.ireturn, 1) := by decide +kernel
theorem pn_java_util_Arrays : plainName "java/util/Arrays" = true := by first | (simp [plainName, overriddenIn]; done) | decide +kernel
theorem ef_10_Rl_0___Int32_l_3___Int32_D (m : MethodId) (x0 : Addr) (x3 : UInt64) : entryFrame m #[(.ref x0), (.int (0 : Int32)), (.int (3 : Int32)), (.double x3)] 14 = mkF m 0 #[.val (.ref x0), .val (.int (0 : Int32)), .val (.int (3 : Int32)), .val (.double x3), .second, .unset, .unset, .unset, .unset, .unset, .unset, .unset, .unset, .unset] [] := by first | (simp [entryFrame, mkF, argsToLocals, Value.category]; done) | rfl
def Q_lo_10 (Z : State) (s0 : Addr) (kA : ClassId) (x0 : UInt64) (x1 : UInt64) (x2 : UInt64) (key : UInt64) (h0 : Heap) (n0 : Nat) (v : Option Value) (h : Heap) (L : List Loc) : Prop := v = some (.int (-1 : Int32)) ∧ Fr n0 L ∧ h = h0
set_option maxRecDepth 65536 in
set_option maxHeartbeats 40000000 in
theorem lo_10 (l : Launch) (Z : State) (a0 : Array Value) (hw : ∀ d ∈ tables_1, d.before a0 Z = true) (ws : List Jvm.Cond) (s0 : Addr) (kA : ClassId) (x0 : UInt64) (x1 : UInt64) (x2 : UInt64) (key : UInt64) (h0 : Heap) (n0 : Nat) (Z0 : n0 ≤ h0.size) (V_s0 : Arv Z h0 s0 kA .double (3 : Int32) [(.double x0), (.double x1), (.double x2)] (.double (0 : UInt64))) (hd33 : (cmpValue (FP.dcmp x1 key) .g) = (1 : Int32)) (hd49 : (cmpValue (FP.dcmp x1 key) .l) = (1 : Int32)) (hd33_1 : (cmpValue (FP.dcmp x0 key) .g) = (1 : Int32)) (hd49_1 : (cmpValue (FP.dcmp x0 key) .l) = (1 : Int32)) :
    MetFree l (⟨"java/util/Arrays", "binarySearch0", "([DIID)I"⟩ : MethodName) (head1 (Jvm.Cond.code (⟨"java/util/Arrays", "binarySearch0", "([DIID)I"⟩ : MethodName) jdk_65_method_71_code 14 (some .int) :: ws) ({ frames := 0, cells := 0, slots := 0, locals := 0 } : Room)) (fun a U => a = #[(.ref s0), (.int (0 : Int32)), (.int (3 : Int32)), (.double key)] ∧ Z.Warmed39 U.vm ∧ U.heap = h0) (fun _ _ _ _ _ => True) (fun _ U o U' => ∃ v L, o = .returned v ∧ Q_lo_10 Z s0 kA x0 x1 x2 key h0 n0 v U'.heap L ∧ FrameEnd U o U' L ({ frames := 0, cells := 0, slots := 0, locals := 0 } : Room).cells ({ frames := 0, cells := 0, slots := 0, locals := 0 } : Room).slots) := by
  refine MetFree.of_bodySF (plainFor_of_name pn_java_util_Arrays) hisR ?_
  intro p e s m args below meth c s₁ Bd hml0 hP hK
  obtain ⟨rfl, hZ, hh⟩ := hP
  have hx := Bd.exec
  have hby := Bd.bytes
  have hml : c.maxLocals = 14 := hml0
  have hown : s.vm.findClass "java/util/Arrays" = some m.cls := findClass_of_methodNamed Bd.named
  have hnm := (name_of_methodNamed Bd.named Bd.method).1
  have X0 : Stand p l e ({ frames := 0, cells := 0, slots := 0, locals := 0 } : Room) s m #[(.ref s0), (.int (0 : Int32)), (.int (3 : Int32)), (.double key)] below meth c s₁ [] 0 0 := Stand.of_body Bd
  have e0 : s₁.heap = h0 := by rw [← hh, Bd.state]; rfl
  have N0 := Fr.nil n0
  have pre0 : ∀ t, Steps p.tables e below (s₁.setTop (mkF m 0 #[.val (.ref s0), .val (.int (0 : Int32)), .val (.int (3 : Int32)), .val (.double key), .second, .unset, .unset, .unset, .unset, .unset, .unset, .unset, .unset, .unset] [])) t → Steps p.tables e below (s₁.setTop (entryFrame m #[(.ref s0), (.int (0 : Int32)), (.int (3 : Int32)), (.double key)] 14)) t := fun t k => castTop (ef_10_Rl_0___Int32_l_3___Int32_D m s0 key) k
  obtain ⟨cq1, Arq1, -, Sq1, -, Hq1, -⟩ := id V_s0
  obtain ⟨cq2, Arq2, -, Sq2, -, Hq2, -⟩ := id V_s0
  obtain ⟨fs, hr, hrun, hended, hW, hsame⟩ := X0.leave (v := some (.int (-1 : Int32))) (fun h => by rw [Bd.returns] at h; cases h)
  refine ⟨_, _, pre0 _ ?_, hrun, hended, _, _, rfl, ?_, ⟨_, rfl⟩, hW, hsame.mono (by decide) (by decide)⟩
  · show Steps p.tables e below (s₁.setTop (mkF m 0 #[.val (.ref s0), .val (.int (0 : Int32)), .val (.int (3 : Int32)), .val (.double key), .second, .unset, .unset, .unset, .unset, .unset, .unset, .unset, .unset, .unset] [])) _
    refine XS.iloadN X0.here hx rfl (hb hby d10_0) rfl ?_
    show Steps p.tables e below (s₁.setTop (mkF m 1 #[.val (.ref s0), .val (.int (0 : Int32)), .val (.int (3 : Int32)), .val (.double key), .second, .unset, .unset, .unset, .unset, .unset, .unset, .unset, .unset, .unset] [(.int (0 : Int32))])) _
    refine XS.istore X0.here hx rfl (hb hby d10_1) rfl (l' := #[.val (.ref s0), .val (.int (0 : Int32)), .val (.int (3 : Int32)), .val (.double key), .second, .val (.int (0 : Int32)), .unset, .unset, .unset, .unset, .unset, .unset, .unset, .unset]) rfl ?_
    show Steps p.tables e below (s₁.setTop (mkF m 3 #[.val (.ref s0), .val (.int (0 : Int32)), .val (.int (3 : Int32)), .val (.double key), .second, .val (.int (0 : Int32)), .unset, .unset, .unset, .unset, .unset, .unset, .unset, .unset] [])) _
    refine XS.iloadN X0.here hx rfl (hb hby d10_3) rfl ?_
    show Steps p.tables e below (s₁.setTop (mkF m 4 #[.val (.ref s0), .val (.int (0 : Int32)), .val (.int (3 : Int32)), .val (.double key), .second, .val (.int (0 : Int32)), .unset, .unset, .unset, .unset, .unset, .unset, .unset, .unset] [(.int (3 : Int32))])) _
    refine XS.iconst X0.here hx rfl (hb hby d10_4) ?_
    show Steps p.tables e below (s₁.setTop (mkF m 5 #[.val (.ref s0), .val (.int (0 : Int32)), .val (.int (3 : Int32)), .val (.double key), .second, .val (.int (0 : Int32)), .unset, .unset, .unset, .unset, .unset, .unset, .unset, .unset] [(.int (1 : Int32)), (.int (3 : Int32))])) _
    refine XS.isub X0.here hx rfl (hb hby d10_5) rfl ?_
    show Steps p.tables e below (s₁.setTop (mkF m 6 #[.val (.ref s0), .val (.int (0 : Int32)), .val (.int (3 : Int32)), .val (.double key), .second, .val (.int (0 : Int32)), .unset, .unset, .unset, .unset, .unset, .unset, .unset, .unset] [(.int ((3 : Int32) - (1 : Int32)))])) _
    rw [show ((3 : Int32) - (1 : Int32)) = (2 : Int32) by decide]
    show Steps p.tables e below (s₁.setTop (mkF m 6 #[.val (.ref s0), .val (.int (0 : Int32)), .val (.int (3 : Int32)), .val (.double key), .second, .val (.int (0 : Int32)), .unset, .unset, .unset, .unset, .unset, .unset, .unset, .unset] [(.int (2 : Int32))])) _
    refine XS.istore X0.here hx rfl (hb hby d10_6) rfl (l' := #[.val (.ref s0), .val (.int (0 : Int32)), .val (.int (3 : Int32)), .val (.double key), .second, .val (.int (0 : Int32)), .val (.int (2 : Int32)), .unset, .unset, .unset, .unset, .unset, .unset, .unset]) rfl ?_
    show Steps p.tables e below (s₁.setTop (mkF m 8 #[.val (.ref s0), .val (.int (0 : Int32)), .val (.int (3 : Int32)), .val (.double key), .second, .val (.int (0 : Int32)), .val (.int (2 : Int32)), .unset, .unset, .unset, .unset, .unset, .unset, .unset] [])) _
    refine XS.iload X0.here hx rfl (hb hby d10_8) rfl ?_
    show Steps p.tables e below (s₁.setTop (mkF m 10 #[.val (.ref s0), .val (.int (0 : Int32)), .val (.int (3 : Int32)), .val (.double key), .second, .val (.int (0 : Int32)), .val (.int (2 : Int32)), .unset, .unset, .unset, .unset, .unset, .unset, .unset] [(.int (0 : Int32))])) _
    refine XS.iload X0.here hx rfl (hb hby d10_10) rfl ?_
    show Steps p.tables e below (s₁.setTop (mkF m 12 #[.val (.ref s0), .val (.int (0 : Int32)), .val (.int (3 : Int32)), .val (.double key), .second, .val (.int (0 : Int32)), .val (.int (2 : Int32)), .unset, .unset, .unset, .unset, .unset, .unset, .unset] [(.int (2 : Int32)), (.int (0 : Int32))])) _
    refine XS.icmpNo X0.here hx rfl (hb hby d10_12) rfl (flt (by decide : ¬ ((2 : Int32) < (0 : Int32)))).2.2.1 ?_
    show Steps p.tables e below (s₁.setTop (mkF m 15 #[.val (.ref s0), .val (.int (0 : Int32)), .val (.int (3 : Int32)), .val (.double key), .second, .val (.int (0 : Int32)), .val (.int (2 : Int32)), .unset, .unset, .unset, .unset, .unset, .unset, .unset] [])) _
    refine XS.iload X0.here hx rfl (hb hby d10_15) rfl ?_
    show Steps p.tables e below (s₁.setTop (mkF m 17 #[.val (.ref s0), .val (.int (0 : Int32)), .val (.int (3 : Int32)), .val (.double key), .second, .val (.int (0 : Int32)), .val (.int (2 : Int32)), .unset, .unset, .unset, .unset, .unset, .unset, .unset] [(.int (0 : Int32))])) _
    refine XS.iload X0.here hx rfl (hb hby d10_17) rfl ?_
    show Steps p.tables e below (s₁.setTop (mkF m 19 #[.val (.ref s0), .val (.int (0 : Int32)), .val (.int (3 : Int32)), .val (.double key), .second, .val (.int (0 : Int32)), .val (.int (2 : Int32)), .unset, .unset, .unset, .unset, .unset, .unset, .unset] [(.int (2 : Int32)), (.int (0 : Int32))])) _
    refine XS.iadd X0.here hx rfl (hb hby d10_19) rfl ?_
    show Steps p.tables e below (s₁.setTop (mkF m 20 #[.val (.ref s0), .val (.int (0 : Int32)), .val (.int (3 : Int32)), .val (.double key), .second, .val (.int (0 : Int32)), .val (.int (2 : Int32)), .unset, .unset, .unset, .unset, .unset, .unset, .unset] [(.int ((0 : Int32) + (2 : Int32)))])) _
    rw [show ((0 : Int32) + (2 : Int32)) = (2 : Int32) by decide]
    show Steps p.tables e below (s₁.setTop (mkF m 20 #[.val (.ref s0), .val (.int (0 : Int32)), .val (.int (3 : Int32)), .val (.double key), .second, .val (.int (0 : Int32)), .val (.int (2 : Int32)), .unset, .unset, .unset, .unset, .unset, .unset, .unset] [(.int (2 : Int32))])) _
    refine XS.iconst X0.here hx rfl (hb hby d10_20) ?_
    show Steps p.tables e below (s₁.setTop (mkF m 21 #[.val (.ref s0), .val (.int (0 : Int32)), .val (.int (3 : Int32)), .val (.double key), .second, .val (.int (0 : Int32)), .val (.int (2 : Int32)), .unset, .unset, .unset, .unset, .unset, .unset, .unset] [(.int (1 : Int32)), (.int (2 : Int32))])) _
    refine XS.iushr X0.here hx rfl (hb hby d10_21) rfl ?_
    show Steps p.tables e below (s₁.setTop (mkF m 22 #[.val (.ref s0), .val (.int (0 : Int32)), .val (.int (3 : Int32)), .val (.double key), .second, .val (.int (0 : Int32)), .val (.int (2 : Int32)), .unset, .unset, .unset, .unset, .unset, .unset, .unset] [(.int (((2 : Int32).toUInt32 >>> ((1 : Int32) &&& 31).toUInt32).toInt32))])) _
    rw [show (((2 : Int32).toUInt32 >>> ((1 : Int32) &&& 31).toUInt32).toInt32) = (1 : Int32) by decide]
    show Steps p.tables e below (s₁.setTop (mkF m 22 #[.val (.ref s0), .val (.int (0 : Int32)), .val (.int (3 : Int32)), .val (.double key), .second, .val (.int (0 : Int32)), .val (.int (2 : Int32)), .unset, .unset, .unset, .unset, .unset, .unset, .unset] [(.int (1 : Int32))])) _
    refine XS.istore X0.here hx rfl (hb hby d10_22) rfl (l' := #[.val (.ref s0), .val (.int (0 : Int32)), .val (.int (3 : Int32)), .val (.double key), .second, .val (.int (0 : Int32)), .val (.int (2 : Int32)), .val (.int (1 : Int32)), .unset, .unset, .unset, .unset, .unset, .unset]) rfl ?_
    show Steps p.tables e below (s₁.setTop (mkF m 24 #[.val (.ref s0), .val (.int (0 : Int32)), .val (.int (3 : Int32)), .val (.double key), .second, .val (.int (0 : Int32)), .val (.int (2 : Int32)), .val (.int (1 : Int32)), .unset, .unset, .unset, .unset, .unset, .unset] [])) _
    refine XS.aloadN X0.here hx rfl (hb hby d10_24) rfl rfl ?_
    show Steps p.tables e below (s₁.setTop (mkF m 25 #[.val (.ref s0), .val (.int (0 : Int32)), .val (.int (3 : Int32)), .val (.double key), .second, .val (.int (0 : Int32)), .val (.int (2 : Int32)), .val (.int (1 : Int32)), .unset, .unset, .unset, .unset, .unset, .unset] [(.ref s0)])) _
    refine XS.iload X0.here hx rfl (hb hby d10_25) rfl ?_
    show Steps p.tables e below (s₁.setTop (mkF m 27 #[.val (.ref s0), .val (.int (0 : Int32)), .val (.int (3 : Int32)), .val (.double key), .second, .val (.int (0 : Int32)), .val (.int (2 : Int32)), .val (.int (1 : Int32)), .unset, .unset, .unset, .unset, .unset, .unset] [(.int (1 : Int32)), (.ref s0)])) _
    refine X0.daload hx (j := (1 : Int32)) (v := (.double x1)) (by rw [e0]; exact Arq1.1) (State.isArrayOf_alike hZ.alike Arq1.2.1) Arq1.2.2 (inb_of Sq1 ⟨by decide, by decide⟩) (Has.at Hq1 (inb_of Sq1 ⟨by decide, by decide⟩) rfl) (g := (mkF m 27 #[.val (.ref s0), .val (.int (0 : Int32)), .val (.int (3 : Int32)), .val (.double key), .second, .val (.int (0 : Int32)), .val (.int (2 : Int32)), .val (.int (1 : Int32)), .unset, .unset, .unset, .unset, .unset, .unset] [(.int (1 : Int32)), (.ref s0)])) rfl rfl (hb hby d10_27) _ ?_
    show Steps p.tables e below (s₁.setTop (mkF m 28 #[.val (.ref s0), .val (.int (0 : Int32)), .val (.int (3 : Int32)), .val (.double key), .second, .val (.int (0 : Int32)), .val (.int (2 : Int32)), .val (.int (1 : Int32)), .unset, .unset, .unset, .unset, .unset, .unset] [(.double x1)])) _
    refine XS.dstore X0.here hx rfl (hb hby d10_28) rfl (l' := #[.val (.ref s0), .val (.int (0 : Int32)), .val (.int (3 : Int32)), .val (.double key), .second, .val (.int (0 : Int32)), .val (.int (2 : Int32)), .val (.int (1 : Int32)), .val (.double x1), .second, .unset, .unset, .unset, .unset]) rfl ?_
    show Steps p.tables e below (s₁.setTop (mkF m 30 #[.val (.ref s0), .val (.int (0 : Int32)), .val (.int (3 : Int32)), .val (.double key), .second, .val (.int (0 : Int32)), .val (.int (2 : Int32)), .val (.int (1 : Int32)), .val (.double x1), .second, .unset, .unset, .unset, .unset] [])) _
    refine XS.dload X0.here hx rfl (hb hby d10_30) rfl ?_
    show Steps p.tables e below (s₁.setTop (mkF m 32 #[.val (.ref s0), .val (.int (0 : Int32)), .val (.int (3 : Int32)), .val (.double key), .second, .val (.int (0 : Int32)), .val (.int (2 : Int32)), .val (.int (1 : Int32)), .val (.double x1), .second, .unset, .unset, .unset, .unset] [(.double x1)])) _
    refine XS.dloadN X0.here hx rfl (hb hby d10_32) rfl ?_
    show Steps p.tables e below (s₁.setTop (mkF m 33 #[.val (.ref s0), .val (.int (0 : Int32)), .val (.int (3 : Int32)), .val (.double key), .second, .val (.int (0 : Int32)), .val (.int (2 : Int32)), .val (.int (1 : Int32)), .val (.double x1), .second, .unset, .unset, .unset, .unset] [(.double key), (.double x1)])) _
    refine XS.dcmpS X0.here hx rfl (hb hby d10_33) rfl (v := (1 : Int32)) hd33 ?_
    show Steps p.tables e below (s₁.setTop (mkF m 34 #[.val (.ref s0), .val (.int (0 : Int32)), .val (.int (3 : Int32)), .val (.double key), .second, .val (.int (0 : Int32)), .val (.int (2 : Int32)), .val (.int (1 : Int32)), .val (.double x1), .second, .unset, .unset, .unset, .unset] [(.int (1 : Int32))])) _
    refine XS.ifYes X0.here hx rfl (pc0 := 34) (pc' := 46) rfl (hb hby d10_34) rfl ((if0 _ _).trans (flt (by decide : ¬ ((1 : Int32) < (0 : Int32)))).2.1) (by decide) (by decide) ?_
    show Steps p.tables e below (s₁.setTop (mkF m 46 #[.val (.ref s0), .val (.int (0 : Int32)), .val (.int (3 : Int32)), .val (.double key), .second, .val (.int (0 : Int32)), .val (.int (2 : Int32)), .val (.int (1 : Int32)), .val (.double x1), .second, .unset, .unset, .unset, .unset] [])) _
    refine XS.dload X0.here hx rfl (hb hby d10_46) rfl ?_
    show Steps p.tables e below (s₁.setTop (mkF m 48 #[.val (.ref s0), .val (.int (0 : Int32)), .val (.int (3 : Int32)), .val (.double key), .second, .val (.int (0 : Int32)), .val (.int (2 : Int32)), .val (.int (1 : Int32)), .val (.double x1), .second, .unset, .unset, .unset, .unset] [(.double x1)])) _
    refine XS.dloadN X0.here hx rfl (hb hby d10_48) rfl ?_
    show Steps p.tables e below (s₁.setTop (mkF m 49 #[.val (.ref s0), .val (.int (0 : Int32)), .val (.int (3 : Int32)), .val (.double key), .second, .val (.int (0 : Int32)), .val (.int (2 : Int32)), .val (.int (1 : Int32)), .val (.double x1), .second, .unset, .unset, .unset, .unset] [(.double key), (.double x1)])) _
    refine XS.dcmpS X0.here hx rfl (hb hby d10_49) rfl (v := (1 : Int32)) hd49 ?_
    show Steps p.tables e below (s₁.setTop (mkF m 50 #[.val (.ref s0), .val (.int (0 : Int32)), .val (.int (3 : Int32)), .val (.double key), .second, .val (.int (0 : Int32)), .val (.int (2 : Int32)), .val (.int (1 : Int32)), .val (.double x1), .second, .unset, .unset, .unset, .unset] [(.int (1 : Int32))])) _
    refine XS.ifNo X0.here hx rfl (hb hby d10_50) rfl ((if0 _ _).trans (tlt (by decide : (0 : Int32) < (1 : Int32))).2.2.2) ?_
    show Steps p.tables e below (s₁.setTop (mkF m 53 #[.val (.ref s0), .val (.int (0 : Int32)), .val (.int (3 : Int32)), .val (.double key), .second, .val (.int (0 : Int32)), .val (.int (2 : Int32)), .val (.int (1 : Int32)), .val (.double x1), .second, .unset, .unset, .unset, .unset] [])) _
    refine XS.iload X0.here hx rfl (hb hby d10_53) rfl ?_
    show Steps p.tables e below (s₁.setTop (mkF m 55 #[.val (.ref s0), .val (.int (0 : Int32)), .val (.int (3 : Int32)), .val (.double key), .second, .val (.int (0 : Int32)), .val (.int (2 : Int32)), .val (.int (1 : Int32)), .val (.double x1), .second, .unset, .unset, .unset, .unset] [(.int (1 : Int32))])) _
    refine XS.iconst X0.here hx rfl (hb hby d10_55) ?_
    show Steps p.tables e below (s₁.setTop (mkF m 56 #[.val (.ref s0), .val (.int (0 : Int32)), .val (.int (3 : Int32)), .val (.double key), .second, .val (.int (0 : Int32)), .val (.int (2 : Int32)), .val (.int (1 : Int32)), .val (.double x1), .second, .unset, .unset, .unset, .unset] [(.int (1 : Int32)), (.int (1 : Int32))])) _
    refine XS.isub X0.here hx rfl (hb hby d10_56) rfl ?_
    show Steps p.tables e below (s₁.setTop (mkF m 57 #[.val (.ref s0), .val (.int (0 : Int32)), .val (.int (3 : Int32)), .val (.double key), .second, .val (.int (0 : Int32)), .val (.int (2 : Int32)), .val (.int (1 : Int32)), .val (.double x1), .second, .unset, .unset, .unset, .unset] [(.int ((1 : Int32) - (1 : Int32)))])) _
    rw [show ((1 : Int32) - (1 : Int32)) = (0 : Int32) by decide]
    show Steps p.tables e below (s₁.setTop (mkF m 57 #[.val (.ref s0), .val (.int (0 : Int32)), .val (.int (3 : Int32)), .val (.double key), .second, .val (.int (0 : Int32)), .val (.int (2 : Int32)), .val (.int (1 : Int32)), .val (.double x1), .second, .unset, .unset, .unset, .unset] [(.int (0 : Int32))])) _
    refine XS.istore X0.here hx rfl (hb hby d10_57) rfl (l' := #[.val (.ref s0), .val (.int (0 : Int32)), .val (.int (3 : Int32)), .val (.double key), .second, .val (.int (0 : Int32)), .val (.int (0 : Int32)), .val (.int (1 : Int32)), .val (.double x1), .second, .unset, .unset, .unset, .unset]) rfl ?_
    show Steps p.tables e below (s₁.setTop (mkF m 59 #[.val (.ref s0), .val (.int (0 : Int32)), .val (.int (3 : Int32)), .val (.double key), .second, .val (.int (0 : Int32)), .val (.int (0 : Int32)), .val (.int (1 : Int32)), .val (.double x1), .second, .unset, .unset, .unset, .unset] [])) _
    refine XS.goto X0.here hx rfl (pc0 := 59) (pc' := 109) rfl (hb hby d10_59) (by decide) (by decide) ?_
    show Steps p.tables e below (s₁.setTop (mkF m 109 #[.val (.ref s0), .val (.int (0 : Int32)), .val (.int (3 : Int32)), .val (.double key), .second, .val (.int (0 : Int32)), .val (.int (0 : Int32)), .val (.int (1 : Int32)), .val (.double x1), .second, .unset, .unset, .unset, .unset] [])) _
    refine XS.goto X0.here hx rfl (pc0 := 109) (pc' := 8) rfl (hb hby d10_109) (by decide) (by decide) ?_
    show Steps p.tables e below (s₁.setTop (mkF m 8 #[.val (.ref s0), .val (.int (0 : Int32)), .val (.int (3 : Int32)), .val (.double key), .second, .val (.int (0 : Int32)), .val (.int (0 : Int32)), .val (.int (1 : Int32)), .val (.double x1), .second, .unset, .unset, .unset, .unset] [])) _
    refine XS.iload X0.here hx rfl (hb hby d10_8) rfl ?_
    show Steps p.tables e below (s₁.setTop (mkF m 10 #[.val (.ref s0), .val (.int (0 : Int32)), .val (.int (3 : Int32)), .val (.double key), .second, .val (.int (0 : Int32)), .val (.int (0 : Int32)), .val (.int (1 : Int32)), .val (.double x1), .second, .unset, .unset, .unset, .unset] [(.int (0 : Int32))])) _
    refine XS.iload X0.here hx rfl (hb hby d10_10) rfl ?_
    show Steps p.tables e below (s₁.setTop (mkF m 12 #[.val (.ref s0), .val (.int (0 : Int32)), .val (.int (3 : Int32)), .val (.double key), .second, .val (.int (0 : Int32)), .val (.int (0 : Int32)), .val (.int (1 : Int32)), .val (.double x1), .second, .unset, .unset, .unset, .unset] [(.int (0 : Int32)), (.int (0 : Int32))])) _
    refine XS.icmpNo X0.here hx rfl (hb hby d10_12) rfl (flt (by decide : ¬ ((0 : Int32) < (0 : Int32)))).2.2.1 ?_
    show Steps p.tables e below (s₁.setTop (mkF m 15 #[.val (.ref s0), .val (.int (0 : Int32)), .val (.int (3 : Int32)), .val (.double key), .second, .val (.int (0 : Int32)), .val (.int (0 : Int32)), .val (.int (1 : Int32)), .val (.double x1), .second, .unset, .unset, .unset, .unset] [])) _
    refine XS.iload X0.here hx rfl (hb hby d10_15) rfl ?_
    show Steps p.tables e below (s₁.setTop (mkF m 17 #[.val (.ref s0), .val (.int (0 : Int32)), .val (.int (3 : Int32)), .val (.double key), .second, .val (.int (0 : Int32)), .val (.int (0 : Int32)), .val (.int (1 : Int32)), .val (.double x1), .second, .unset, .unset, .unset, .unset] [(.int (0 : Int32))])) _
    refine XS.iload X0.here hx rfl (hb hby d10_17) rfl ?_
    show Steps p.tables e below (s₁.setTop (mkF m 19 #[.val (.ref s0), .val (.int (0 : Int32)), .val (.int (3 : Int32)), .val (.double key), .second, .val (.int (0 : Int32)), .val (.int (0 : Int32)), .val (.int (1 : Int32)), .val (.double x1), .second, .unset, .unset, .unset, .unset] [(.int (0 : Int32)), (.int (0 : Int32))])) _
    refine XS.iadd X0.here hx rfl (hb hby d10_19) rfl ?_
    show Steps p.tables e below (s₁.setTop (mkF m 20 #[.val (.ref s0), .val (.int (0 : Int32)), .val (.int (3 : Int32)), .val (.double key), .second, .val (.int (0 : Int32)), .val (.int (0 : Int32)), .val (.int (1 : Int32)), .val (.double x1), .second, .unset, .unset, .unset, .unset] [(.int ((0 : Int32) + (0 : Int32)))])) _
    rw [show ((0 : Int32) + (0 : Int32)) = (0 : Int32) by decide]
    show Steps p.tables e below (s₁.setTop (mkF m 20 #[.val (.ref s0), .val (.int (0 : Int32)), .val (.int (3 : Int32)), .val (.double key), .second, .val (.int (0 : Int32)), .val (.int (0 : Int32)), .val (.int (1 : Int32)), .val (.double x1), .second, .unset, .unset, .unset, .unset] [(.int (0 : Int32))])) _
    refine XS.iconst X0.here hx rfl (hb hby d10_20) ?_
    show Steps p.tables e below (s₁.setTop (mkF m 21 #[.val (.ref s0), .val (.int (0 : Int32)), .val (.int (3 : Int32)), .val (.double key), .second, .val (.int (0 : Int32)), .val (.int (0 : Int32)), .val (.int (1 : Int32)), .val (.double x1), .second, .unset, .unset, .unset, .unset] [(.int (1 : Int32)), (.int (0 : Int32))])) _
    refine XS.iushr X0.here hx rfl (hb hby d10_21) rfl ?_
    show Steps p.tables e below (s₁.setTop (mkF m 22 #[.val (.ref s0), .val (.int (0 : Int32)), .val (.int (3 : Int32)), .val (.double key), .second, .val (.int (0 : Int32)), .val (.int (0 : Int32)), .val (.int (1 : Int32)), .val (.double x1), .second, .unset, .unset, .unset, .unset] [(.int (((0 : Int32).toUInt32 >>> ((1 : Int32) &&& 31).toUInt32).toInt32))])) _
    rw [show (((0 : Int32).toUInt32 >>> ((1 : Int32) &&& 31).toUInt32).toInt32) = (0 : Int32) by decide]
    show Steps p.tables e below (s₁.setTop (mkF m 22 #[.val (.ref s0), .val (.int (0 : Int32)), .val (.int (3 : Int32)), .val (.double key), .second, .val (.int (0 : Int32)), .val (.int (0 : Int32)), .val (.int (1 : Int32)), .val (.double x1), .second, .unset, .unset, .unset, .unset] [(.int (0 : Int32))])) _
    refine XS.istore X0.here hx rfl (hb hby d10_22) rfl (l' := #[.val (.ref s0), .val (.int (0 : Int32)), .val (.int (3 : Int32)), .val (.double key), .second, .val (.int (0 : Int32)), .val (.int (0 : Int32)), .val (.int (0 : Int32)), .val (.double x1), .second, .unset, .unset, .unset, .unset]) rfl ?_
    show Steps p.tables e below (s₁.setTop (mkF m 24 #[.val (.ref s0), .val (.int (0 : Int32)), .val (.int (3 : Int32)), .val (.double key), .second, .val (.int (0 : Int32)), .val (.int (0 : Int32)), .val (.int (0 : Int32)), .val (.double x1), .second, .unset, .unset, .unset, .unset] [])) _
    refine XS.aloadN X0.here hx rfl (hb hby d10_24) rfl rfl ?_
    show Steps p.tables e below (s₁.setTop (mkF m 25 #[.val (.ref s0), .val (.int (0 : Int32)), .val (.int (3 : Int32)), .val (.double key), .second, .val (.int (0 : Int32)), .val (.int (0 : Int32)), .val (.int (0 : Int32)), .val (.double x1), .second, .unset, .unset, .unset, .unset] [(.ref s0)])) _
    refine XS.iload X0.here hx rfl (hb hby d10_25) rfl ?_
    show Steps p.tables e below (s₁.setTop (mkF m 27 #[.val (.ref s0), .val (.int (0 : Int32)), .val (.int (3 : Int32)), .val (.double key), .second, .val (.int (0 : Int32)), .val (.int (0 : Int32)), .val (.int (0 : Int32)), .val (.double x1), .second, .unset, .unset, .unset, .unset] [(.int (0 : Int32)), (.ref s0)])) _
    refine X0.daload hx (j := (0 : Int32)) (v := (.double x0)) (by rw [e0]; exact Arq2.1) (State.isArrayOf_alike hZ.alike Arq2.2.1) Arq2.2.2 (inb_of Sq2 ⟨by decide, by decide⟩) (Has.at Hq2 (inb_of Sq2 ⟨by decide, by decide⟩) rfl) (g := (mkF m 27 #[.val (.ref s0), .val (.int (0 : Int32)), .val (.int (3 : Int32)), .val (.double key), .second, .val (.int (0 : Int32)), .val (.int (0 : Int32)), .val (.int (0 : Int32)), .val (.double x1), .second, .unset, .unset, .unset, .unset] [(.int (0 : Int32)), (.ref s0)])) rfl rfl (hb hby d10_27) _ ?_
    show Steps p.tables e below (s₁.setTop (mkF m 28 #[.val (.ref s0), .val (.int (0 : Int32)), .val (.int (3 : Int32)), .val (.double key), .second, .val (.int (0 : Int32)), .val (.int (0 : Int32)), .val (.int (0 : Int32)), .val (.double x1), .second, .unset, .unset, .unset, .unset] [(.double x0)])) _
    refine XS.dstore X0.here hx rfl (hb hby d10_28) rfl (l' := #[.val (.ref s0), .val (.int (0 : Int32)), .val (.int (3 : Int32)), .val (.double key), .second, .val (.int (0 : Int32)), .val (.int (0 : Int32)), .val (.int (0 : Int32)), .val (.double x0), .second, .unset, .unset, .unset, .unset]) rfl ?_
    show Steps p.tables e below (s₁.setTop (mkF m 30 #[.val (.ref s0), .val (.int (0 : Int32)), .val (.int (3 : Int32)), .val (.double key), .second, .val (.int (0 : Int32)), .val (.int (0 : Int32)), .val (.int (0 : Int32)), .val (.double x0), .second, .unset, .unset, .unset, .unset] [])) _
    refine XS.dload X0.here hx rfl (hb hby d10_30) rfl ?_
    show Steps p.tables e below (s₁.setTop (mkF m 32 #[.val (.ref s0), .val (.int (0 : Int32)), .val (.int (3 : Int32)), .val (.double key), .second, .val (.int (0 : Int32)), .val (.int (0 : Int32)), .val (.int (0 : Int32)), .val (.double x0), .second, .unset, .unset, .unset, .unset] [(.double x0)])) _
    refine XS.dloadN X0.here hx rfl (hb hby d10_32) rfl ?_
    show Steps p.tables e below (s₁.setTop (mkF m 33 #[.val (.ref s0), .val (.int (0 : Int32)), .val (.int (3 : Int32)), .val (.double key), .second, .val (.int (0 : Int32)), .val (.int (0 : Int32)), .val (.int (0 : Int32)), .val (.double x0), .second, .unset, .unset, .unset, .unset] [(.double key), (.double x0)])) _
    refine XS.dcmpS X0.here hx rfl (hb hby d10_33) rfl (v := (1 : Int32)) hd33_1 ?_
    show Steps p.tables e below (s₁.setTop (mkF m 34 #[.val (.ref s0), .val (.int (0 : Int32)), .val (.int (3 : Int32)), .val (.double key), .second, .val (.int (0 : Int32)), .val (.int (0 : Int32)), .val (.int (0 : Int32)), .val (.double x0), .second, .unset, .unset, .unset, .unset] [(.int (1 : Int32))])) _
    refine XS.ifYes X0.here hx rfl (pc0 := 34) (pc' := 46) rfl (hb hby d10_34) rfl ((if0 _ _).trans (flt (by decide : ¬ ((1 : Int32) < (0 : Int32)))).2.1) (by decide) (by decide) ?_
    show Steps p.tables e below (s₁.setTop (mkF m 46 #[.val (.ref s0), .val (.int (0 : Int32)), .val (.int (3 : Int32)), .val (.double key), .second, .val (.int (0 : Int32)), .val (.int (0 : Int32)), .val (.int (0 : Int32)), .val (.double x0), .second, .unset, .unset, .unset, .unset] [])) _
    refine XS.dload X0.here hx rfl (hb hby d10_46) rfl ?_
    show Steps p.tables e below (s₁.setTop (mkF m 48 #[.val (.ref s0), .val (.int (0 : Int32)), .val (.int (3 : Int32)), .val (.double key), .second, .val (.int (0 : Int32)), .val (.int (0 : Int32)), .val (.int (0 : Int32)), .val (.double x0), .second, .unset, .unset, .unset, .unset] [(.double x0)])) _
    refine XS.dloadN X0.here hx rfl (hb hby d10_48) rfl ?_
    show Steps p.tables e below (s₁.setTop (mkF m 49 #[.val (.ref s0), .val (.int (0 : Int32)), .val (.int (3 : Int32)), .val (.double key), .second, .val (.int (0 : Int32)), .val (.int (0 : Int32)), .val (.int (0 : Int32)), .val (.double x0), .second, .unset, .unset, .unset, .unset] [(.double key), (.double x0)])) _
    refine XS.dcmpS X0.here hx rfl (hb hby d10_49) rfl (v := (1 : Int32)) hd49_1 ?_
    show Steps p.tables e below (s₁.setTop (mkF m 50 #[.val (.ref s0), .val (.int (0 : Int32)), .val (.int (3 : Int32)), .val (.double key), .second, .val (.int (0 : Int32)), .val (.int (0 : Int32)), .val (.int (0 : Int32)), .val (.double x0), .second, .unset, .unset, .unset, .unset] [(.int (1 : Int32))])) _
    refine XS.ifNo X0.here hx rfl (hb hby d10_50) rfl ((if0 _ _).trans (tlt (by decide : (0 : Int32) < (1 : Int32))).2.2.2) ?_
    show Steps p.tables e below (s₁.setTop (mkF m 53 #[.val (.ref s0), .val (.int (0 : Int32)), .val (.int (3 : Int32)), .val (.double key), .second, .val (.int (0 : Int32)), .val (.int (0 : Int32)), .val (.int (0 : Int32)), .val (.double x0), .second, .unset, .unset, .unset, .unset] [])) _
    refine XS.iload X0.here hx rfl (hb hby d10_53) rfl ?_
    show Steps p.tables e below (s₁.setTop (mkF m 55 #[.val (.ref s0), .val (.int (0 : Int32)), .val (.int (3 : Int32)), .val (.double key), .second, .val (.int (0 : Int32)), .val (.int (0 : Int32)), .val (.int (0 : Int32)), .val (.double x0), .second, .unset, .unset, .unset, .unset] [(.int (0 : Int32))])) _
    refine XS.iconst X0.here hx rfl (hb hby d10_55) ?_
    show Steps p.tables e below (s₁.setTop (mkF m 56 #[.val (.ref s0), .val (.int (0 : Int32)), .val (.int (3 : Int32)), .val (.double key), .second, .val (.int (0 : Int32)), .val (.int (0 : Int32)), .val (.int (0 : Int32)), .val (.double x0), .second, .unset, .unset, .unset, .unset] [(.int (1 : Int32)), (.int (0 : Int32))])) _
    refine XS.isub X0.here hx rfl (hb hby d10_56) rfl ?_
    show Steps p.tables e below (s₁.setTop (mkF m 57 #[.val (.ref s0), .val (.int (0 : Int32)), .val (.int (3 : Int32)), .val (.double key), .second, .val (.int (0 : Int32)), .val (.int (0 : Int32)), .val (.int (0 : Int32)), .val (.double x0), .second, .unset, .unset, .unset, .unset] [(.int ((0 : Int32) - (1 : Int32)))])) _
    rw [show ((0 : Int32) - (1 : Int32)) = (-1 : Int32) by decide]
    show Steps p.tables e below (s₁.setTop (mkF m 57 #[.val (.ref s0), .val (.int (0 : Int32)), .val (.int (3 : Int32)), .val (.double key), .second, .val (.int (0 : Int32)), .val (.int (0 : Int32)), .val (.int (0 : Int32)), .val (.double x0), .second, .unset, .unset, .unset, .unset] [(.int (-1 : Int32))])) _
    refine XS.istore X0.here hx rfl (hb hby d10_57) rfl (l' := #[.val (.ref s0), .val (.int (0 : Int32)), .val (.int (3 : Int32)), .val (.double key), .second, .val (.int (0 : Int32)), .val (.int (-1 : Int32)), .val (.int (0 : Int32)), .val (.double x0), .second, .unset, .unset, .unset, .unset]) rfl ?_
    show Steps p.tables e below (s₁.setTop (mkF m 59 #[.val (.ref s0), .val (.int (0 : Int32)), .val (.int (3 : Int32)), .val (.double key), .second, .val (.int (0 : Int32)), .val (.int (-1 : Int32)), .val (.int (0 : Int32)), .val (.double x0), .second, .unset, .unset, .unset, .unset] [])) _
    refine XS.goto X0.here hx rfl (pc0 := 59) (pc' := 109) rfl (hb hby d10_59) (by decide) (by decide) ?_
    show Steps p.tables e below (s₁.setTop (mkF m 109 #[.val (.ref s0), .val (.int (0 : Int32)), .val (.int (3 : Int32)), .val (.double key), .second, .val (.int (0 : Int32)), .val (.int (-1 : Int32)), .val (.int (0 : Int32)), .val (.double x0), .second, .unset, .unset, .unset, .unset] [])) _
    refine XS.goto X0.here hx rfl (pc0 := 109) (pc' := 8) rfl (hb hby d10_109) (by decide) (by decide) ?_
    show Steps p.tables e below (s₁.setTop (mkF m 8 #[.val (.ref s0), .val (.int (0 : Int32)), .val (.int (3 : Int32)), .val (.double key), .second, .val (.int (0 : Int32)), .val (.int (-1 : Int32)), .val (.int (0 : Int32)), .val (.double x0), .second, .unset, .unset, .unset, .unset] [])) _
    refine XS.iload X0.here hx rfl (hb hby d10_8) rfl ?_
    show Steps p.tables e below (s₁.setTop (mkF m 10 #[.val (.ref s0), .val (.int (0 : Int32)), .val (.int (3 : Int32)), .val (.double key), .second, .val (.int (0 : Int32)), .val (.int (-1 : Int32)), .val (.int (0 : Int32)), .val (.double x0), .second, .unset, .unset, .unset, .unset] [(.int (0 : Int32))])) _
    refine XS.iload X0.here hx rfl (hb hby d10_10) rfl ?_
    show Steps p.tables e below (s₁.setTop (mkF m 12 #[.val (.ref s0), .val (.int (0 : Int32)), .val (.int (3 : Int32)), .val (.double key), .second, .val (.int (0 : Int32)), .val (.int (-1 : Int32)), .val (.int (0 : Int32)), .val (.double x0), .second, .unset, .unset, .unset, .unset] [(.int (-1 : Int32)), (.int (0 : Int32))])) _
    refine XS.icmpYes X0.here hx rfl (pc0 := 12) (pc' := 112) rfl (hb hby d10_12) rfl (tlt (by decide : (-1 : Int32) < (0 : Int32))).2.2.1 (by decide) (by decide) ?_
    show Steps p.tables e below (s₁.setTop (mkF m 112 #[.val (.ref s0), .val (.int (0 : Int32)), .val (.int (3 : Int32)), .val (.double key), .second, .val (.int (0 : Int32)), .val (.int (-1 : Int32)), .val (.int (0 : Int32)), .val (.double x0), .second, .unset, .unset, .unset, .unset] [])) _
    refine XS.iload X0.here hx rfl (hb hby d10_112) rfl ?_
    show Steps p.tables e below (s₁.setTop (mkF m 114 #[.val (.ref s0), .val (.int (0 : Int32)), .val (.int (3 : Int32)), .val (.double key), .second, .val (.int (0 : Int32)), .val (.int (-1 : Int32)), .val (.int (0 : Int32)), .val (.double x0), .second, .unset, .unset, .unset, .unset] [(.int (0 : Int32))])) _
    refine XS.iconst X0.here hx rfl (hb hby d10_114) ?_
    show Steps p.tables e below (s₁.setTop (mkF m 115 #[.val (.ref s0), .val (.int (0 : Int32)), .val (.int (3 : Int32)), .val (.double key), .second, .val (.int (0 : Int32)), .val (.int (-1 : Int32)), .val (.int (0 : Int32)), .val (.double x0), .second, .unset, .unset, .unset, .unset] [(.int (1 : Int32)), (.int (0 : Int32))])) _
    refine XS.iadd X0.here hx rfl (hb hby d10_115) rfl ?_
    show Steps p.tables e below (s₁.setTop (mkF m 116 #[.val (.ref s0), .val (.int (0 : Int32)), .val (.int (3 : Int32)), .val (.double key), .second, .val (.int (0 : Int32)), .val (.int (-1 : Int32)), .val (.int (0 : Int32)), .val (.double x0), .second, .unset, .unset, .unset, .unset] [(.int ((0 : Int32) + (1 : Int32)))])) _
    rw [show ((0 : Int32) + (1 : Int32)) = (1 : Int32) by decide]
    show Steps p.tables e below (s₁.setTop (mkF m 116 #[.val (.ref s0), .val (.int (0 : Int32)), .val (.int (3 : Int32)), .val (.double key), .second, .val (.int (0 : Int32)), .val (.int (-1 : Int32)), .val (.int (0 : Int32)), .val (.double x0), .second, .unset, .unset, .unset, .unset] [(.int (1 : Int32))])) _
    refine XS.ineg X0.here hx rfl (hb hby d10_116) rfl ?_
    show Steps p.tables e below (s₁.setTop (mkF m 117 #[.val (.ref s0), .val (.int (0 : Int32)), .val (.int (3 : Int32)), .val (.double key), .second, .val (.int (0 : Int32)), .val (.int (-1 : Int32)), .val (.int (0 : Int32)), .val (.double x0), .second, .unset, .unset, .unset, .unset] [(.int (-(1 : Int32)))])) _
    rw [show (-(1 : Int32)) = (-1 : Int32) by decide]
    show Steps p.tables e below (s₁.setTop (mkF m 117 #[.val (.ref s0), .val (.int (0 : Int32)), .val (.int (3 : Int32)), .val (.double key), .second, .val (.int (0 : Int32)), .val (.int (-1 : Int32)), .val (.int (0 : Int32)), .val (.double x0), .second, .unset, .unset, .unset, .unset] [(.int (-1 : Int32))])) _
    exact retOut X0 hx Bd.returns rfl (Or.inl ⟨rfl, Or.inl rfl, _, rfl⟩) (hb hby d10_117) hr
  · show Q_lo_10 Z s0 kA x0 x1 x2 key h0 n0 _ s₁.heap _
    rw [e0]
    exact ⟨rfl, N0, rfl⟩
theorem d9_0 : decode jdk_65_method_69_code 0 = .ok (.aload_n 0, 1) := by decide +kernel
theorem d9_1 : decode jdk_65_method_69_code 1 = .ok (.iconst 0, 1) := by decide +kernel
theorem d9_2 : decode jdk_65_method_69_code 2 = .ok (.aload_n 0, 1) := by decide +kernel
theorem d9_3 : decode jdk_65_method_69_code 3 = .ok (.arraylength, 1) := by decide +kernel
theorem d9_4 : decode jdk_65_method_69_code 4 = .ok (.dload_n 1, 1) := by decide +kernel
theorem d9_5 : decode jdk_65_method_69_code 5 = .ok (.invokestatic 221, 3) := by decide +kernel
theorem pd_1 : parseMethodDescriptor "([DIID)I" = some ⟨[(.array .double), .int, .int, .double], some .int⟩ := by decide +kernel
theorem d9_8 : decode jdk_65_method_69_code 8 = .ok (.ireturn, 1) := by decide +kernel
theorem ef_9_RD (m : MethodId) (x0 : Addr) (x1 : UInt64) : entryFrame m #[(.ref x0), (.double x1)] 3 = mkF m 0 #[.val (.ref x0), .val (.double x1), .second] [] := by first | (simp [entryFrame, mkF, argsToLocals, Value.category]; done) | rfl
def Q_lo_9 (Z : State) (s0 : Addr) (kA : ClassId) (x0 : UInt64) (x1 : UInt64) (x2 : UInt64) (key : UInt64) (h0 : Heap) (n0 : Nat) (v : Option Value) (h : Heap) (L : List Loc) : Prop := v = some (.int (-1 : Int32)) ∧ Fr n0 L ∧ h = h0
set_option maxRecDepth 65536 in
set_option maxHeartbeats 40000000 in
theorem lo_9 (l : Launch) (Z : State) (a0 : Array Value) (hw : ∀ d ∈ tables_1, d.before a0 Z = true) (ws : List Jvm.Cond) (s0 : Addr) (kA : ClassId) (x0 : UInt64) (x1 : UInt64) (x2 : UInt64) (key : UInt64) (h0 : Heap) (n0 : Nat) (Z0 : n0 ≤ h0.size) (V_s0 : Arv Z h0 s0 kA .double (3 : Int32) [(.double x0), (.double x1), (.double x2)] (.double (0 : UInt64))) (hd33_5 : (cmpValue (FP.dcmp x1 key) .g) = (1 : Int32)) (hd49_5 : (cmpValue (FP.dcmp x1 key) .l) = (1 : Int32)) (hd33_1_5 : (cmpValue (FP.dcmp x0 key) .g) = (1 : Int32)) (hd49_1_5 : (cmpValue (FP.dcmp x0 key) .l) = (1 : Int32)) :
    MetFree l (⟨"java/util/Arrays", "binarySearch", "([DD)I"⟩ : MethodName) (head1 (Jvm.Cond.code (⟨"java/util/Arrays", "binarySearch", "([DD)I"⟩ : MethodName) jdk_65_method_69_code 3 (some .int) :: ws) ({ frames := 1, cells := 0, slots := 0, locals := 25 } : Room)) (fun a U => a = #[(.ref s0), (.double key)] ∧ Z.Warmed39 U.vm ∧ U.heap = h0) (fun _ _ _ _ _ => True) (fun _ U o U' => ∃ v L, o = .returned v ∧ Q_lo_9 Z s0 kA x0 x1 x2 key h0 n0 v U'.heap L ∧ FrameEnd U o U' L ({ frames := 1, cells := 0, slots := 0, locals := 25 } : Room).cells ({ frames := 1, cells := 0, slots := 0, locals := 25 } : Room).slots) := by
  refine MetFree.of_bodySF (plainFor_of_name pn_java_util_Arrays) hisR ?_
  intro p e s m args below meth c s₁ Bd hml0 hP hK
  obtain ⟨rfl, hZ, hh⟩ := hP
  have hx := Bd.exec
  have hby := Bd.bytes
  have hml : c.maxLocals = 3 := hml0
  have hown : s.vm.findClass "java/util/Arrays" = some m.cls := findClass_of_methodNamed Bd.named
  have hnm := (name_of_methodNamed Bd.named Bd.method).1
  have X0 : Stand p l e ({ frames := 1, cells := 0, slots := 0, locals := 25 } : Room) s m #[(.ref s0), (.double key)] below meth c s₁ [] 0 0 := Stand.of_body Bd
  have e0 : s₁.heap = h0 := by rw [← hh, Bd.state]; rfl
  have N0 := Fr.nil n0
  have pre0 : ∀ t, Steps p.tables e below (s₁.setTop (mkF m 0 #[.val (.ref s0), .val (.double key), .second] [])) t → Steps p.tables e below (s₁.setTop (entryFrame m #[(.ref s0), (.double key)] 3)) t := fun t k => castTop (ef_9_RD m s0 key) k
  obtain ⟨cq1, Arq1, -, Sq1, Nq1, -, -⟩ := id V_s0
  obtain ⟨_, _, ⟨T2, L2, k2, n2⟩, -, X2, ⟨Lc2, hQ2, l2, y2, z2⟩, st2⟩ := Jvm.LawKit.callS X0 hx (y := (⟨"java/util/Arrays", "binarySearch0", "([DIID)I"⟩ : MethodName)) hown (mvT hZ (hw _ (List.mem_of_getElem? (i := 54) rfl))) (mvT hZ (hw _ (List.mem_of_getElem? (i := 55) rfl))) (mvT hZ (hw _ (List.mem_of_getElem? (i := 52) rfl))) (mvT hZ (hw _ (List.mem_of_getElem? (i := 56) rfl))) (by decide) (backOf (W := 0) (lo_10 l Z a0 hw [] s0 kA x0 x1 x2 key h0 n0 Z0 V_s0 hd33_5 hd49_5 hd33_1_5 hd49_1_5) hZ (hw _ (List.mem_of_getElem? (i := 56) rfl)) (hw _ (List.mem_of_getElem? (i := 52) rfl)) (by decide) (by decide)) (g := (mkF m 5 #[.val (.ref s0), .val (.double key), .second] [(.double key), (.int (3 : Int32)), (.int (0 : Int32)), (.ref s0)])) rfl (by rw [hml]; rfl) (argsL := [(.ref s0), (.int (0 : Int32)), (.int (3 : Int32)), (.double key)]) (rest := []) (lenOf pd_1 rfl) rfl (by show 2 * 0 + _ ≤ _; exact Nat.le_of_eq rfl) (hb hby d9_5) (fun _ _ => ⟨rfl, e0, (by decide : 0 + 0 ≤ _), (by decide : 0 + 0 ≤ _)⟩)
  dsimp only [Pt.U, Pt.locs, Pt.cells, Pt.slots] at X2 l2 y2 z2 st2 hQ2
  subst l2 y2 z2
  obtain ⟨rfl, N2q, eh2⟩ := hQ2
  have N2 := Fr.app N0 N2q
  have e2 : T2.heap = h0 := eh2
  obtain ⟨fs, hr, hrun, hended, hW, hsame⟩ := X2.leave (v := some (.int (-1 : Int32))) (fun h => by rw [Bd.returns] at h; cases h)
  refine ⟨_, _, pre0 _ ?_, hrun, hended, _, _, rfl, ?_, ⟨_, rfl⟩, hW, hsame.mono (by decide) (by decide)⟩
  · show Steps p.tables e below (s₁.setTop (mkF m 0 #[.val (.ref s0), .val (.double key), .second] [])) _
    refine XS.aloadN X0.here hx rfl (hb hby d9_0) rfl rfl ?_
    show Steps p.tables e below (s₁.setTop (mkF m 1 #[.val (.ref s0), .val (.double key), .second] [(.ref s0)])) _
    refine XS.iconst X0.here hx rfl (hb hby d9_1) ?_
    show Steps p.tables e below (s₁.setTop (mkF m 2 #[.val (.ref s0), .val (.double key), .second] [(.int (0 : Int32)), (.ref s0)])) _
    refine XS.aloadN X0.here hx rfl (hb hby d9_2) rfl rfl ?_
    show Steps p.tables e below (s₁.setTop (mkF m 3 #[.val (.ref s0), .val (.double key), .second] [(.ref s0), (.int (0 : Int32)), (.ref s0)])) _
    refine X0.arraylength hx (by rw [e0]; exact Arq1.1) (State.isArrayOf_alike hZ.alike Arq1.2.1) (g := (mkF m 3 #[.val (.ref s0), .val (.double key), .second] [(.ref s0), (.int (0 : Int32)), (.ref s0)])) rfl rfl (hb hby d9_3) _ ?_
    rw [len_of Sq1 Nq1]
    show Steps p.tables e below (s₁.setTop (mkF m 4 #[.val (.ref s0), .val (.double key), .second] [(.int (3 : Int32)), (.int (0 : Int32)), (.ref s0)])) _
    refine XS.dloadN X0.here hx rfl (hb hby d9_4) rfl ?_
    show Steps p.tables e below (s₁.setTop (mkF m 5 #[.val (.ref s0), .val (.double key), .second] [(.double key), (.int (3 : Int32)), (.int (0 : Int32)), (.ref s0)])) _
    refine st2 _ ?_
    show Steps p.tables e below (T2.setTop (mkF m 8 #[.val (.ref s0), .val (.double key), .second] [(.int (-1 : Int32))])) _
    exact retOut X2 hx Bd.returns rfl (Or.inl ⟨rfl, Or.inl rfl, _, rfl⟩) (hb hby d9_8) hr
  · show Q_lo_9 Z s0 kA x0 x1 x2 key h0 n0 _ T2.heap _
    rw [e2]
    exact ⟨rfl, N2, rfl⟩
theorem d10_37 : decode jdk_65_method_71_code 37 = .ok (.iload 7, 2) := by decide +kernel
theorem d10_39 : decode jdk_65_method_71_code 39 = .ok (.iconst 1, 1) := by decide +kernel
theorem d10_40 : decode jdk_65_method_71_code 40 = .ok (.iadd, 1) := by decide +kernel
theorem d10_41 : decode jdk_65_method_71_code 41 = .ok (.istore 5, 2) := by decide +kernel
theorem d10_43 : decode jdk_65_method_71_code 43 = .ok (.goto 66, 3) := by decide +kernel
def Q_hi_10 (Z : State) (s0 : Addr) (kA : ClassId) (x0 : UInt64) (x1 : UInt64) (x2 : UInt64) (key : UInt64) (h0 : Heap) (n0 : Nat) (v : Option Value) (h : Heap) (L : List Loc) : Prop := v = some (.int (-4 : Int32)) ∧ Fr n0 L ∧ h = h0
set_option maxRecDepth 65536 in
set_option maxHeartbeats 40000000 in
theorem hi_10 (l : Launch) (Z : State) (a0 : Array Value) (hw : ∀ d ∈ tables_1, d.before a0 Z = true) (ws : List Jvm.Cond) (s0 : Addr) (kA : ClassId) (x0 : UInt64) (x1 : UInt64) (x2 : UInt64) (key : UInt64) (h0 : Heap) (n0 : Nat) (Z0 : n0 ≤ h0.size) (V_s0 : Arv Z h0 s0 kA .double (3 : Int32) [(.double x0), (.double x1), (.double x2)] (.double (0 : UInt64))) (hd33 : (cmpValue (FP.dcmp x1 key) .g) = (-1 : Int32)) (hd33_1 : (cmpValue (FP.dcmp x2 key) .g) = (-1 : Int32)) :
    MetFree l (⟨"java/util/Arrays", "binarySearch0", "([DIID)I"⟩ : MethodName) (head1 (Jvm.Cond.code (⟨"java/util/Arrays", "binarySearch0", "([DIID)I"⟩ : MethodName) jdk_65_method_71_code 14 (some .int) :: ws) ({ frames := 0, cells := 0, slots := 0, locals := 0 } : Room)) (fun a U => a = #[(.ref s0), (.int (0 : Int32)), (.int (3 : Int32)), (.double key)] ∧ Z.Warmed39 U.vm ∧ U.heap = h0) (fun _ _ _ _ _ => True) (fun _ U o U' => ∃ v L, o = .returned v ∧ Q_hi_10 Z s0 kA x0 x1 x2 key h0 n0 v U'.heap L ∧ FrameEnd U o U' L ({ frames := 0, cells := 0, slots := 0, locals := 0 } : Room).cells ({ frames := 0, cells := 0, slots := 0, locals := 0 } : Room).slots) := by
  refine MetFree.of_bodySF (plainFor_of_name pn_java_util_Arrays) hisR ?_
  intro p e s m args below meth c s₁ Bd hml0 hP hK
  obtain ⟨rfl, hZ, hh⟩ := hP
  have hx := Bd.exec
  have hby := Bd.bytes
  have hml : c.maxLocals = 14 := hml0
  have hown : s.vm.findClass "java/util/Arrays" = some m.cls := findClass_of_methodNamed Bd.named
  have hnm := (name_of_methodNamed Bd.named Bd.method).1
  have X0 : Stand p l e ({ frames := 0, cells := 0, slots := 0, locals := 0 } : Room) s m #[(.ref s0), (.int (0 : Int32)), (.int (3 : Int32)), (.double key)] below meth c s₁ [] 0 0 := Stand.of_body Bd
  have e0 : s₁.heap = h0 := by rw [← hh, Bd.state]; rfl
  have N0 := Fr.nil n0
  have pre0 : ∀ t, Steps p.tables e below (s₁.setTop (mkF m 0 #[.val (.ref s0), .val (.int (0 : Int32)), .val (.int (3 : Int32)), .val (.double key), .second, .unset, .unset, .unset, .unset, .unset, .unset, .unset, .unset, .unset] [])) t → Steps p.tables e below (s₁.setTop (entryFrame m #[(.ref s0), (.int (0 : Int32)), (.int (3 : Int32)), (.double key)] 14)) t := fun t k => castTop (ef_10_Rl_0___Int32_l_3___Int32_D m s0 key) k
  obtain ⟨cq1, Arq1, -, Sq1, -, Hq1, -⟩ := id V_s0
  obtain ⟨cq2, Arq2, -, Sq2, -, Hq2, -⟩ := id V_s0
  obtain ⟨fs, hr, hrun, hended, hW, hsame⟩ := X0.leave (v := some (.int (-4 : Int32))) (fun h => by rw [Bd.returns] at h; cases h)
  refine ⟨_, _, pre0 _ ?_, hrun, hended, _, _, rfl, ?_, ⟨_, rfl⟩, hW, hsame.mono (by decide) (by decide)⟩
  · show Steps p.tables e below (s₁.setTop (mkF m 0 #[.val (.ref s0), .val (.int (0 : Int32)), .val (.int (3 : Int32)), .val (.double key), .second, .unset, .unset, .unset, .unset, .unset, .unset, .unset, .unset, .unset] [])) _
    refine XS.iloadN X0.here hx rfl (hb hby d10_0) rfl ?_
    show Steps p.tables e below (s₁.setTop (mkF m 1 #[.val (.ref s0), .val (.int (0 : Int32)), .val (.int (3 : Int32)), .val (.double key), .second, .unset, .unset, .unset, .unset, .unset, .unset, .unset, .unset, .unset] [(.int (0 : Int32))])) _
    refine XS.istore X0.here hx rfl (hb hby d10_1) rfl (l' := #[.val (.ref s0), .val (.int (0 : Int32)), .val (.int (3 : Int32)), .val (.double key), .second, .val (.int (0 : Int32)), .unset, .unset, .unset, .unset, .unset, .unset, .unset, .unset]) rfl ?_
    show Steps p.tables e below (s₁.setTop (mkF m 3 #[.val (.ref s0), .val (.int (0 : Int32)), .val (.int (3 : Int32)), .val (.double key), .second, .val (.int (0 : Int32)), .unset, .unset, .unset, .unset, .unset, .unset, .unset, .unset] [])) _
    refine XS.iloadN X0.here hx rfl (hb hby d10_3) rfl ?_
    show Steps p.tables e below (s₁.setTop (mkF m 4 #[.val (.ref s0), .val (.int (0 : Int32)), .val (.int (3 : Int32)), .val (.double key), .second, .val (.int (0 : Int32)), .unset, .unset, .unset, .unset, .unset, .unset, .unset, .unset] [(.int (3 : Int32))])) _
    refine XS.iconst X0.here hx rfl (hb hby d10_4) ?_
    show Steps p.tables e below (s₁.setTop (mkF m 5 #[.val (.ref s0), .val (.int (0 : Int32)), .val (.int (3 : Int32)), .val (.double key), .second, .val (.int (0 : Int32)), .unset, .unset, .unset, .unset, .unset, .unset, .unset, .unset] [(.int (1 : Int32)), (.int (3 : Int32))])) _
    refine XS.isub X0.here hx rfl (hb hby d10_5) rfl ?_
    show Steps p.tables e below (s₁.setTop (mkF m 6 #[.val (.ref s0), .val (.int (0 : Int32)), .val (.int (3 : Int32)), .val (.double key), .second, .val (.int (0 : Int32)), .unset, .unset, .unset, .unset, .unset, .unset, .unset, .unset] [(.int ((3 : Int32) - (1 : Int32)))])) _
    rw [show ((3 : Int32) - (1 : Int32)) = (2 : Int32) by decide]
    show Steps p.tables e below (s₁.setTop (mkF m 6 #[.val (.ref s0), .val (.int (0 : Int32)), .val (.int (3 : Int32)), .val (.double key), .second, .val (.int (0 : Int32)), .unset, .unset, .unset, .unset, .unset, .unset, .unset, .unset] [(.int (2 : Int32))])) _
    refine XS.istore X0.here hx rfl (hb hby d10_6) rfl (l' := #[.val (.ref s0), .val (.int (0 : Int32)), .val (.int (3 : Int32)), .val (.double key), .second, .val (.int (0 : Int32)), .val (.int (2 : Int32)), .unset, .unset, .unset, .unset, .unset, .unset, .unset]) rfl ?_
    show Steps p.tables e below (s₁.setTop (mkF m 8 #[.val (.ref s0), .val (.int (0 : Int32)), .val (.int (3 : Int32)), .val (.double key), .second, .val (.int (0 : Int32)), .val (.int (2 : Int32)), .unset, .unset, .unset, .unset, .unset, .unset, .unset] [])) _
    refine XS.iload X0.here hx rfl (hb hby d10_8) rfl ?_
    show Steps p.tables e below (s₁.setTop (mkF m 10 #[.val (.ref s0), .val (.int (0 : Int32)), .val (.int (3 : Int32)), .val (.double key), .second, .val (.int (0 : Int32)), .val (.int (2 : Int32)), .unset, .unset, .unset, .unset, .unset, .unset, .unset] [(.int (0 : Int32))])) _
    refine XS.iload X0.here hx rfl (hb hby d10_10) rfl ?_
    show Steps p.tables e below (s₁.setTop (mkF m 12 #[.val (.ref s0), .val (.int (0 : Int32)), .val (.int (3 : Int32)), .val (.double key), .second, .val (.int (0 : Int32)), .val (.int (2 : Int32)), .unset, .unset, .unset, .unset, .unset, .unset, .unset] [(.int (2 : Int32)), (.int (0 : Int32))])) _
    refine XS.icmpNo X0.here hx rfl (hb hby d10_12) rfl (flt (by decide : ¬ ((2 : Int32) < (0 : Int32)))).2.2.1 ?_
    show Steps p.tables e below (s₁.setTop (mkF m 15 #[.val (.ref s0), .val (.int (0 : Int32)), .val (.int (3 : Int32)), .val (.double key), .second, .val (.int (0 : Int32)), .val (.int (2 : Int32)), .unset, .unset, .unset, .unset, .unset, .unset, .unset] [])) _
    refine XS.iload X0.here hx rfl (hb hby d10_15) rfl ?_
    show Steps p.tables e below (s₁.setTop (mkF m 17 #[.val (.ref s0), .val (.int (0 : Int32)), .val (.int (3 : Int32)), .val (.double key), .second, .val (.int (0 : Int32)), .val (.int (2 : Int32)), .unset, .unset, .unset, .unset, .unset, .unset, .unset] [(.int (0 : Int32))])) _
    refine XS.iload X0.here hx rfl (hb hby d10_17) rfl ?_
    show Steps p.tables e below (s₁.setTop (mkF m 19 #[.val (.ref s0), .val (.int (0 : Int32)), .val (.int (3 : Int32)), .val (.double key), .second, .val (.int (0 : Int32)), .val (.int (2 : Int32)), .unset, .unset, .unset, .unset, .unset, .unset, .unset] [(.int (2 : Int32)), (.int (0 : Int32))])) _
    refine XS.iadd X0.here hx rfl (hb hby d10_19) rfl ?_
    show Steps p.tables e below (s₁.setTop (mkF m 20 #[.val (.ref s0), .val (.int (0 : Int32)), .val (.int (3 : Int32)), .val (.double key), .second, .val (.int (0 : Int32)), .val (.int (2 : Int32)), .unset, .unset, .unset, .unset, .unset, .unset, .unset] [(.int ((0 : Int32) + (2 : Int32)))])) _
    rw [show ((0 : Int32) + (2 : Int32)) = (2 : Int32) by decide]
    show Steps p.tables e below (s₁.setTop (mkF m 20 #[.val (.ref s0), .val (.int (0 : Int32)), .val (.int (3 : Int32)), .val (.double key), .second, .val (.int (0 : Int32)), .val (.int (2 : Int32)), .unset, .unset, .unset, .unset, .unset, .unset, .unset] [(.int (2 : Int32))])) _
    refine XS.iconst X0.here hx rfl (hb hby d10_20) ?_
    show Steps p.tables e below (s₁.setTop (mkF m 21 #[.val (.ref s0), .val (.int (0 : Int32)), .val (.int (3 : Int32)), .val (.double key), .second, .val (.int (0 : Int32)), .val (.int (2 : Int32)), .unset, .unset, .unset, .unset, .unset, .unset, .unset] [(.int (1 : Int32)), (.int (2 : Int32))])) _
    refine XS.iushr X0.here hx rfl (hb hby d10_21) rfl ?_
    show Steps p.tables e below (s₁.setTop (mkF m 22 #[.val (.ref s0), .val (.int (0 : Int32)), .val (.int (3 : Int32)), .val (.double key), .second, .val (.int (0 : Int32)), .val (.int (2 : Int32)), .unset, .unset, .unset, .unset, .unset, .unset, .unset] [(.int (((2 : Int32).toUInt32 >>> ((1 : Int32) &&& 31).toUInt32).toInt32))])) _
    rw [show (((2 : Int32).toUInt32 >>> ((1 : Int32) &&& 31).toUInt32).toInt32) = (1 : Int32) by decide]
    show Steps p.tables e below (s₁.setTop (mkF m 22 #[.val (.ref s0), .val (.int (0 : Int32)), .val (.int (3 : Int32)), .val (.double key), .second, .val (.int (0 : Int32)), .val (.int (2 : Int32)), .unset, .unset, .unset, .unset, .unset, .unset, .unset] [(.int (1 : Int32))])) _
    refine XS.istore X0.here hx rfl (hb hby d10_22) rfl (l' := #[.val (.ref s0), .val (.int (0 : Int32)), .val (.int (3 : Int32)), .val (.double key), .second, .val (.int (0 : Int32)), .val (.int (2 : Int32)), .val (.int (1 : Int32)), .unset, .unset, .unset, .unset, .unset, .unset]) rfl ?_
    show Steps p.tables e below (s₁.setTop (mkF m 24 #[.val (.ref s0), .val (.int (0 : Int32)), .val (.int (3 : Int32)), .val (.double key), .second, .val (.int (0 : Int32)), .val (.int (2 : Int32)), .val (.int (1 : Int32)), .unset, .unset, .unset, .unset, .unset, .unset] [])) _
    refine XS.aloadN X0.here hx rfl (hb hby d10_24) rfl rfl ?_
    show Steps p.tables e below (s₁.setTop (mkF m 25 #[.val (.ref s0), .val (.int (0 : Int32)), .val (.int (3 : Int32)), .val (.double key), .second, .val (.int (0 : Int32)), .val (.int (2 : Int32)), .val (.int (1 : Int32)), .unset, .unset, .unset, .unset, .unset, .unset] [(.ref s0)])) _
    refine XS.iload X0.here hx rfl (hb hby d10_25) rfl ?_
    show Steps p.tables e below (s₁.setTop (mkF m 27 #[.val (.ref s0), .val (.int (0 : Int32)), .val (.int (3 : Int32)), .val (.double key), .second, .val (.int (0 : Int32)), .val (.int (2 : Int32)), .val (.int (1 : Int32)), .unset, .unset, .unset, .unset, .unset, .unset] [(.int (1 : Int32)), (.ref s0)])) _
    refine X0.daload hx (j := (1 : Int32)) (v := (.double x1)) (by rw [e0]; exact Arq1.1) (State.isArrayOf_alike hZ.alike Arq1.2.1) Arq1.2.2 (inb_of Sq1 ⟨by decide, by decide⟩) (Has.at Hq1 (inb_of Sq1 ⟨by decide, by decide⟩) rfl) (g := (mkF m 27 #[.val (.ref s0), .val (.int (0 : Int32)), .val (.int (3 : Int32)), .val (.double key), .second, .val (.int (0 : Int32)), .val (.int (2 : Int32)), .val (.int (1 : Int32)), .unset, .unset, .unset, .unset, .unset, .unset] [(.int (1 : Int32)), (.ref s0)])) rfl rfl (hb hby d10_27) _ ?_
    show Steps p.tables e below (s₁.setTop (mkF m 28 #[.val (.ref s0), .val (.int (0 : Int32)), .val (.int (3 : Int32)), .val (.double key), .second, .val (.int (0 : Int32)), .val (.int (2 : Int32)), .val (.int (1 : Int32)), .unset, .unset, .unset, .unset, .unset, .unset] [(.double x1)])) _
    refine XS.dstore X0.here hx rfl (hb hby d10_28) rfl (l' := #[.val (.ref s0), .val (.int (0 : Int32)), .val (.int (3 : Int32)), .val (.double key), .second, .val (.int (0 : Int32)), .val (.int (2 : Int32)), .val (.int (1 : Int32)), .val (.double x1), .second, .unset, .unset, .unset, .unset]) rfl ?_
    show Steps p.tables e below (s₁.setTop (mkF m 30 #[.val (.ref s0), .val (.int (0 : Int32)), .val (.int (3 : Int32)), .val (.double key), .second, .val (.int (0 : Int32)), .val (.int (2 : Int32)), .val (.int (1 : Int32)), .val (.double x1), .second, .unset, .unset, .unset, .unset] [])) _
    refine XS.dload X0.here hx rfl (hb hby d10_30) rfl ?_
    show Steps p.tables e below (s₁.setTop (mkF m 32 #[.val (.ref s0), .val (.int (0 : Int32)), .val (.int (3 : Int32)), .val (.double key), .second, .val (.int (0 : Int32)), .val (.int (2 : Int32)), .val (.int (1 : Int32)), .val (.double x1), .second, .unset, .unset, .unset, .unset] [(.double x1)])) _
    refine XS.dloadN X0.here hx rfl (hb hby d10_32) rfl ?_
    show Steps p.tables e below (s₁.setTop (mkF m 33 #[.val (.ref s0), .val (.int (0 : Int32)), .val (.int (3 : Int32)), .val (.double key), .second, .val (.int (0 : Int32)), .val (.int (2 : Int32)), .val (.int (1 : Int32)), .val (.double x1), .second, .unset, .unset, .unset, .unset] [(.double key), (.double x1)])) _
    refine XS.dcmpS X0.here hx rfl (hb hby d10_33) rfl (v := (-1 : Int32)) hd33 ?_
    show Steps p.tables e below (s₁.setTop (mkF m 34 #[.val (.ref s0), .val (.int (0 : Int32)), .val (.int (3 : Int32)), .val (.double key), .second, .val (.int (0 : Int32)), .val (.int (2 : Int32)), .val (.int (1 : Int32)), .val (.double x1), .second, .unset, .unset, .unset, .unset] [(.int (-1 : Int32))])) _
    refine XS.ifNo X0.here hx rfl (hb hby d10_34) rfl ((if0 _ _).trans (tlt (by decide : (-1 : Int32) < (0 : Int32))).2.1) ?_
    show Steps p.tables e below (s₁.setTop (mkF m 37 #[.val (.ref s0), .val (.int (0 : Int32)), .val (.int (3 : Int32)), .val (.double key), .second, .val (.int (0 : Int32)), .val (.int (2 : Int32)), .val (.int (1 : Int32)), .val (.double x1), .second, .unset, .unset, .unset, .unset] [])) _
    refine XS.iload X0.here hx rfl (hb hby d10_37) rfl ?_
    show Steps p.tables e below (s₁.setTop (mkF m 39 #[.val (.ref s0), .val (.int (0 : Int32)), .val (.int (3 : Int32)), .val (.double key), .second, .val (.int (0 : Int32)), .val (.int (2 : Int32)), .val (.int (1 : Int32)), .val (.double x1), .second, .unset, .unset, .unset, .unset] [(.int (1 : Int32))])) _
    refine XS.iconst X0.here hx rfl (hb hby d10_39) ?_
    show Steps p.tables e below (s₁.setTop (mkF m 40 #[.val (.ref s0), .val (.int (0 : Int32)), .val (.int (3 : Int32)), .val (.double key), .second, .val (.int (0 : Int32)), .val (.int (2 : Int32)), .val (.int (1 : Int32)), .val (.double x1), .second, .unset, .unset, .unset, .unset] [(.int (1 : Int32)), (.int (1 : Int32))])) _
    refine XS.iadd X0.here hx rfl (hb hby d10_40) rfl ?_
    show Steps p.tables e below (s₁.setTop (mkF m 41 #[.val (.ref s0), .val (.int (0 : Int32)), .val (.int (3 : Int32)), .val (.double key), .second, .val (.int (0 : Int32)), .val (.int (2 : Int32)), .val (.int (1 : Int32)), .val (.double x1), .second, .unset, .unset, .unset, .unset] [(.int ((1 : Int32) + (1 : Int32)))])) _
    rw [show ((1 : Int32) + (1 : Int32)) = (2 : Int32) by decide]
    show Steps p.tables e below (s₁.setTop (mkF m 41 #[.val (.ref s0), .val (.int (0 : Int32)), .val (.int (3 : Int32)), .val (.double key), .second, .val (.int (0 : Int32)), .val (.int (2 : Int32)), .val (.int (1 : Int32)), .val (.double x1), .second, .unset, .unset, .unset, .unset] [(.int (2 : Int32))])) _
    refine XS.istore X0.here hx rfl (hb hby d10_41) rfl (l' := #[.val (.ref s0), .val (.int (0 : Int32)), .val (.int (3 : Int32)), .val (.double key), .second, .val (.int (2 : Int32)), .val (.int (2 : Int32)), .val (.int (1 : Int32)), .val (.double x1), .second, .unset, .unset, .unset, .unset]) rfl ?_
    show Steps p.tables e below (s₁.setTop (mkF m 43 #[.val (.ref s0), .val (.int (0 : Int32)), .val (.int (3 : Int32)), .val (.double key), .second, .val (.int (2 : Int32)), .val (.int (2 : Int32)), .val (.int (1 : Int32)), .val (.double x1), .second, .unset, .unset, .unset, .unset] [])) _
    refine XS.goto X0.here hx rfl (pc0 := 43) (pc' := 109) rfl (hb hby d10_43) (by decide) (by decide) ?_
    show Steps p.tables e below (s₁.setTop (mkF m 109 #[.val (.ref s0), .val (.int (0 : Int32)), .val (.int (3 : Int32)), .val (.double key), .second, .val (.int (2 : Int32)), .val (.int (2 : Int32)), .val (.int (1 : Int32)), .val (.double x1), .second, .unset, .unset, .unset, .unset] [])) _
    refine XS.goto X0.here hx rfl (pc0 := 109) (pc' := 8) rfl (hb hby d10_109) (by decide) (by decide) ?_
    show Steps p.tables e below (s₁.setTop (mkF m 8 #[.val (.ref s0), .val (.int (0 : Int32)), .val (.int (3 : Int32)), .val (.double key), .second, .val (.int (2 : Int32)), .val (.int (2 : Int32)), .val (.int (1 : Int32)), .val (.double x1), .second, .unset, .unset, .unset, .unset] [])) _
    refine XS.iload X0.here hx rfl (hb hby d10_8) rfl ?_
    show Steps p.tables e below (s₁.setTop (mkF m 10 #[.val (.ref s0), .val (.int (0 : Int32)), .val (.int (3 : Int32)), .val (.double key), .second, .val (.int (2 : Int32)), .val (.int (2 : Int32)), .val (.int (1 : Int32)), .val (.double x1), .second, .unset, .unset, .unset, .unset] [(.int (2 : Int32))])) _
    refine XS.iload X0.here hx rfl (hb hby d10_10) rfl ?_
    show Steps p.tables e below (s₁.setTop (mkF m 12 #[.val (.ref s0), .val (.int (0 : Int32)), .val (.int (3 : Int32)), .val (.double key), .second, .val (.int (2 : Int32)), .val (.int (2 : Int32)), .val (.int (1 : Int32)), .val (.double x1), .second, .unset, .unset, .unset, .unset] [(.int (2 : Int32)), (.int (2 : Int32))])) _
    refine XS.icmpNo X0.here hx rfl (hb hby d10_12) rfl (flt (by decide : ¬ ((2 : Int32) < (2 : Int32)))).2.2.1 ?_
    show Steps p.tables e below (s₁.setTop (mkF m 15 #[.val (.ref s0), .val (.int (0 : Int32)), .val (.int (3 : Int32)), .val (.double key), .second, .val (.int (2 : Int32)), .val (.int (2 : Int32)), .val (.int (1 : Int32)), .val (.double x1), .second, .unset, .unset, .unset, .unset] [])) _
    refine XS.iload X0.here hx rfl (hb hby d10_15) rfl ?_
    show Steps p.tables e below (s₁.setTop (mkF m 17 #[.val (.ref s0), .val (.int (0 : Int32)), .val (.int (3 : Int32)), .val (.double key), .second, .val (.int (2 : Int32)), .val (.int (2 : Int32)), .val (.int (1 : Int32)), .val (.double x1), .second, .unset, .unset, .unset, .unset] [(.int (2 : Int32))])) _
    refine XS.iload X0.here hx rfl (hb hby d10_17) rfl ?_
    show Steps p.tables e below (s₁.setTop (mkF m 19 #[.val (.ref s0), .val (.int (0 : Int32)), .val (.int (3 : Int32)), .val (.double key), .second, .val (.int (2 : Int32)), .val (.int (2 : Int32)), .val (.int (1 : Int32)), .val (.double x1), .second, .unset, .unset, .unset, .unset] [(.int (2 : Int32)), (.int (2 : Int32))])) _
    refine XS.iadd X0.here hx rfl (hb hby d10_19) rfl ?_
    show Steps p.tables e below (s₁.setTop (mkF m 20 #[.val (.ref s0), .val (.int (0 : Int32)), .val (.int (3 : Int32)), .val (.double key), .second, .val (.int (2 : Int32)), .val (.int (2 : Int32)), .val (.int (1 : Int32)), .val (.double x1), .second, .unset, .unset, .unset, .unset] [(.int ((2 : Int32) + (2 : Int32)))])) _
    rw [show ((2 : Int32) + (2 : Int32)) = (4 : Int32) by decide]
    show Steps p.tables e below (s₁.setTop (mkF m 20 #[.val (.ref s0), .val (.int (0 : Int32)), .val (.int (3 : Int32)), .val (.double key), .second, .val (.int (2 : Int32)), .val (.int (2 : Int32)), .val (.int (1 : Int32)), .val (.double x1), .second, .unset, .unset, .unset, .unset] [(.int (4 : Int32))])) _
    refine XS.iconst X0.here hx rfl (hb hby d10_20) ?_
    show Steps p.tables e below (s₁.setTop (mkF m 21 #[.val (.ref s0), .val (.int (0 : Int32)), .val (.int (3 : Int32)), .val (.double key), .second, .val (.int (2 : Int32)), .val (.int (2 : Int32)), .val (.int (1 : Int32)), .val (.double x1), .second, .unset, .unset, .unset, .unset] [(.int (1 : Int32)), (.int (4 : Int32))])) _
    refine XS.iushr X0.here hx rfl (hb hby d10_21) rfl ?_
    show Steps p.tables e below (s₁.setTop (mkF m 22 #[.val (.ref s0), .val (.int (0 : Int32)), .val (.int (3 : Int32)), .val (.double key), .second, .val (.int (2 : Int32)), .val (.int (2 : Int32)), .val (.int (1 : Int32)), .val (.double x1), .second, .unset, .unset, .unset, .unset] [(.int (((4 : Int32).toUInt32 >>> ((1 : Int32) &&& 31).toUInt32).toInt32))])) _
    rw [show (((4 : Int32).toUInt32 >>> ((1 : Int32) &&& 31).toUInt32).toInt32) = (2 : Int32) by decide]
    show Steps p.tables e below (s₁.setTop (mkF m 22 #[.val (.ref s0), .val (.int (0 : Int32)), .val (.int (3 : Int32)), .val (.double key), .second, .val (.int (2 : Int32)), .val (.int (2 : Int32)), .val (.int (1 : Int32)), .val (.double x1), .second, .unset, .unset, .unset, .unset] [(.int (2 : Int32))])) _
    refine XS.istore X0.here hx rfl (hb hby d10_22) rfl (l' := #[.val (.ref s0), .val (.int (0 : Int32)), .val (.int (3 : Int32)), .val (.double key), .second, .val (.int (2 : Int32)), .val (.int (2 : Int32)), .val (.int (2 : Int32)), .val (.double x1), .second, .unset, .unset, .unset, .unset]) rfl ?_
    show Steps p.tables e below (s₁.setTop (mkF m 24 #[.val (.ref s0), .val (.int (0 : Int32)), .val (.int (3 : Int32)), .val (.double key), .second, .val (.int (2 : Int32)), .val (.int (2 : Int32)), .val (.int (2 : Int32)), .val (.double x1), .second, .unset, .unset, .unset, .unset] [])) _
    refine XS.aloadN X0.here hx rfl (hb hby d10_24) rfl rfl ?_
    show Steps p.tables e below (s₁.setTop (mkF m 25 #[.val (.ref s0), .val (.int (0 : Int32)), .val (.int (3 : Int32)), .val (.double key), .second, .val (.int (2 : Int32)), .val (.int (2 : Int32)), .val (.int (2 : Int32)), .val (.double x1), .second, .unset, .unset, .unset, .unset] [(.ref s0)])) _
    refine XS.iload X0.here hx rfl (hb hby d10_25) rfl ?_
    show Steps p.tables e below (s₁.setTop (mkF m 27 #[.val (.ref s0), .val (.int (0 : Int32)), .val (.int (3 : Int32)), .val (.double key), .second, .val (.int (2 : Int32)), .val (.int (2 : Int32)), .val (.int (2 : Int32)), .val (.double x1), .second, .unset, .unset, .unset, .unset] [(.int (2 : Int32)), (.ref s0)])) _
    refine X0.daload hx (j := (2 : Int32)) (v := (.double x2)) (by rw [e0]; exact Arq2.1) (State.isArrayOf_alike hZ.alike Arq2.2.1) Arq2.2.2 (inb_of Sq2 ⟨by decide, by decide⟩) (Has.at Hq2 (inb_of Sq2 ⟨by decide, by decide⟩) rfl) (g := (mkF m 27 #[.val (.ref s0), .val (.int (0 : Int32)), .val (.int (3 : Int32)), .val (.double key), .second, .val (.int (2 : Int32)), .val (.int (2 : Int32)), .val (.int (2 : Int32)), .val (.double x1), .second, .unset, .unset, .unset, .unset] [(.int (2 : Int32)), (.ref s0)])) rfl rfl (hb hby d10_27) _ ?_
    show Steps p.tables e below (s₁.setTop (mkF m 28 #[.val (.ref s0), .val (.int (0 : Int32)), .val (.int (3 : Int32)), .val (.double key), .second, .val (.int (2 : Int32)), .val (.int (2 : Int32)), .val (.int (2 : Int32)), .val (.double x1), .second, .unset, .unset, .unset, .unset] [(.double x2)])) _
    refine XS.dstore X0.here hx rfl (hb hby d10_28) rfl (l' := #[.val (.ref s0), .val (.int (0 : Int32)), .val (.int (3 : Int32)), .val (.double key), .second, .val (.int (2 : Int32)), .val (.int (2 : Int32)), .val (.int (2 : Int32)), .val (.double x2), .second, .unset, .unset, .unset, .unset]) rfl ?_
    show Steps p.tables e below (s₁.setTop (mkF m 30 #[.val (.ref s0), .val (.int (0 : Int32)), .val (.int (3 : Int32)), .val (.double key), .second, .val (.int (2 : Int32)), .val (.int (2 : Int32)), .val (.int (2 : Int32)), .val (.double x2), .second, .unset, .unset, .unset, .unset] [])) _
    refine XS.dload X0.here hx rfl (hb hby d10_30) rfl ?_
    show Steps p.tables e below (s₁.setTop (mkF m 32 #[.val (.ref s0), .val (.int (0 : Int32)), .val (.int (3 : Int32)), .val (.double key), .second, .val (.int (2 : Int32)), .val (.int (2 : Int32)), .val (.int (2 : Int32)), .val (.double x2), .second, .unset, .unset, .unset, .unset] [(.double x2)])) _
    refine XS.dloadN X0.here hx rfl (hb hby d10_32) rfl ?_
    show Steps p.tables e below (s₁.setTop (mkF m 33 #[.val (.ref s0), .val (.int (0 : Int32)), .val (.int (3 : Int32)), .val (.double key), .second, .val (.int (2 : Int32)), .val (.int (2 : Int32)), .val (.int (2 : Int32)), .val (.double x2), .second, .unset, .unset, .unset, .unset] [(.double key), (.double x2)])) _
    refine XS.dcmpS X0.here hx rfl (hb hby d10_33) rfl (v := (-1 : Int32)) hd33_1 ?_
    show Steps p.tables e below (s₁.setTop (mkF m 34 #[.val (.ref s0), .val (.int (0 : Int32)), .val (.int (3 : Int32)), .val (.double key), .second, .val (.int (2 : Int32)), .val (.int (2 : Int32)), .val (.int (2 : Int32)), .val (.double x2), .second, .unset, .unset, .unset, .unset] [(.int (-1 : Int32))])) _
    refine XS.ifNo X0.here hx rfl (hb hby d10_34) rfl ((if0 _ _).trans (tlt (by decide : (-1 : Int32) < (0 : Int32))).2.1) ?_
    show Steps p.tables e below (s₁.setTop (mkF m 37 #[.val (.ref s0), .val (.int (0 : Int32)), .val (.int (3 : Int32)), .val (.double key), .second, .val (.int (2 : Int32)), .val (.int (2 : Int32)), .val (.int (2 : Int32)), .val (.double x2), .second, .unset, .unset, .unset, .unset] [])) _
    refine XS.iload X0.here hx rfl (hb hby d10_37) rfl ?_
    show Steps p.tables e below (s₁.setTop (mkF m 39 #[.val (.ref s0), .val (.int (0 : Int32)), .val (.int (3 : Int32)), .val (.double key), .second, .val (.int (2 : Int32)), .val (.int (2 : Int32)), .val (.int (2 : Int32)), .val (.double x2), .second, .unset, .unset, .unset, .unset] [(.int (2 : Int32))])) _
    refine XS.iconst X0.here hx rfl (hb hby d10_39) ?_
    show Steps p.tables e below (s₁.setTop (mkF m 40 #[.val (.ref s0), .val (.int (0 : Int32)), .val (.int (3 : Int32)), .val (.double key), .second, .val (.int (2 : Int32)), .val (.int (2 : Int32)), .val (.int (2 : Int32)), .val (.double x2), .second, .unset, .unset, .unset, .unset] [(.int (1 : Int32)), (.int (2 : Int32))])) _
    refine XS.iadd X0.here hx rfl (hb hby d10_40) rfl ?_
    show Steps p.tables e below (s₁.setTop (mkF m 41 #[.val (.ref s0), .val (.int (0 : Int32)), .val (.int (3 : Int32)), .val (.double key), .second, .val (.int (2 : Int32)), .val (.int (2 : Int32)), .val (.int (2 : Int32)), .val (.double x2), .second, .unset, .unset, .unset, .unset] [(.int ((2 : Int32) + (1 : Int32)))])) _
    rw [show ((2 : Int32) + (1 : Int32)) = (3 : Int32) by decide]
    show Steps p.tables e below (s₁.setTop (mkF m 41 #[.val (.ref s0), .val (.int (0 : Int32)), .val (.int (3 : Int32)), .val (.double key), .second, .val (.int (2 : Int32)), .val (.int (2 : Int32)), .val (.int (2 : Int32)), .val (.double x2), .second, .unset, .unset, .unset, .unset] [(.int (3 : Int32))])) _
    refine XS.istore X0.here hx rfl (hb hby d10_41) rfl (l' := #[.val (.ref s0), .val (.int (0 : Int32)), .val (.int (3 : Int32)), .val (.double key), .second, .val (.int (3 : Int32)), .val (.int (2 : Int32)), .val (.int (2 : Int32)), .val (.double x2), .second, .unset, .unset, .unset, .unset]) rfl ?_
    show Steps p.tables e below (s₁.setTop (mkF m 43 #[.val (.ref s0), .val (.int (0 : Int32)), .val (.int (3 : Int32)), .val (.double key), .second, .val (.int (3 : Int32)), .val (.int (2 : Int32)), .val (.int (2 : Int32)), .val (.double x2), .second, .unset, .unset, .unset, .unset] [])) _
    refine XS.goto X0.here hx rfl (pc0 := 43) (pc' := 109) rfl (hb hby d10_43) (by decide) (by decide) ?_
    show Steps p.tables e below (s₁.setTop (mkF m 109 #[.val (.ref s0), .val (.int (0 : Int32)), .val (.int (3 : Int32)), .val (.double key), .second, .val (.int (3 : Int32)), .val (.int (2 : Int32)), .val (.int (2 : Int32)), .val (.double x2), .second, .unset, .unset, .unset, .unset] [])) _
    refine XS.goto X0.here hx rfl (pc0 := 109) (pc' := 8) rfl (hb hby d10_109) (by decide) (by decide) ?_
    show Steps p.tables e below (s₁.setTop (mkF m 8 #[.val (.ref s0), .val (.int (0 : Int32)), .val (.int (3 : Int32)), .val (.double key), .second, .val (.int (3 : Int32)), .val (.int (2 : Int32)), .val (.int (2 : Int32)), .val (.double x2), .second, .unset, .unset, .unset, .unset] [])) _
    refine XS.iload X0.here hx rfl (hb hby d10_8) rfl ?_
    show Steps p.tables e below (s₁.setTop (mkF m 10 #[.val (.ref s0), .val (.int (0 : Int32)), .val (.int (3 : Int32)), .val (.double key), .second, .val (.int (3 : Int32)), .val (.int (2 : Int32)), .val (.int (2 : Int32)), .val (.double x2), .second, .unset, .unset, .unset, .unset] [(.int (3 : Int32))])) _
    refine XS.iload X0.here hx rfl (hb hby d10_10) rfl ?_
    show Steps p.tables e below (s₁.setTop (mkF m 12 #[.val (.ref s0), .val (.int (0 : Int32)), .val (.int (3 : Int32)), .val (.double key), .second, .val (.int (3 : Int32)), .val (.int (2 : Int32)), .val (.int (2 : Int32)), .val (.double x2), .second, .unset, .unset, .unset, .unset] [(.int (2 : Int32)), (.int (3 : Int32))])) _
    refine XS.icmpYes X0.here hx rfl (pc0 := 12) (pc' := 112) rfl (hb hby d10_12) rfl (tlt (by decide : (2 : Int32) < (3 : Int32))).2.2.1 (by decide) (by decide) ?_
    show Steps p.tables e below (s₁.setTop (mkF m 112 #[.val (.ref s0), .val (.int (0 : Int32)), .val (.int (3 : Int32)), .val (.double key), .second, .val (.int (3 : Int32)), .val (.int (2 : Int32)), .val (.int (2 : Int32)), .val (.double x2), .second, .unset, .unset, .unset, .unset] [])) _
    refine XS.iload X0.here hx rfl (hb hby d10_112) rfl ?_
    show Steps p.tables e below (s₁.setTop (mkF m 114 #[.val (.ref s0), .val (.int (0 : Int32)), .val (.int (3 : Int32)), .val (.double key), .second, .val (.int (3 : Int32)), .val (.int (2 : Int32)), .val (.int (2 : Int32)), .val (.double x2), .second, .unset, .unset, .unset, .unset] [(.int (3 : Int32))])) _
    refine XS.iconst X0.here hx rfl (hb hby d10_114) ?_
    show Steps p.tables e below (s₁.setTop (mkF m 115 #[.val (.ref s0), .val (.int (0 : Int32)), .val (.int (3 : Int32)), .val (.double key), .second, .val (.int (3 : Int32)), .val (.int (2 : Int32)), .val (.int (2 : Int32)), .val (.double x2), .second, .unset, .unset, .unset, .unset] [(.int (1 : Int32)), (.int (3 : Int32))])) _
    refine XS.iadd X0.here hx rfl (hb hby d10_115) rfl ?_
    show Steps p.tables e below (s₁.setTop (mkF m 116 #[.val (.ref s0), .val (.int (0 : Int32)), .val (.int (3 : Int32)), .val (.double key), .second, .val (.int (3 : Int32)), .val (.int (2 : Int32)), .val (.int (2 : Int32)), .val (.double x2), .second, .unset, .unset, .unset, .unset] [(.int ((3 : Int32) + (1 : Int32)))])) _
    rw [show ((3 : Int32) + (1 : Int32)) = (4 : Int32) by decide]
    show Steps p.tables e below (s₁.setTop (mkF m 116 #[.val (.ref s0), .val (.int (0 : Int32)), .val (.int (3 : Int32)), .val (.double key), .second, .val (.int (3 : Int32)), .val (.int (2 : Int32)), .val (.int (2 : Int32)), .val (.double x2), .second, .unset, .unset, .unset, .unset] [(.int (4 : Int32))])) _
    refine XS.ineg X0.here hx rfl (hb hby d10_116) rfl ?_
    show Steps p.tables e below (s₁.setTop (mkF m 117 #[.val (.ref s0), .val (.int (0 : Int32)), .val (.int (3 : Int32)), .val (.double key), .second, .val (.int (3 : Int32)), .val (.int (2 : Int32)), .val (.int (2 : Int32)), .val (.double x2), .second, .unset, .unset, .unset, .unset] [(.int (-(4 : Int32)))])) _
    rw [show (-(4 : Int32)) = (-4 : Int32) by decide]
    show Steps p.tables e below (s₁.setTop (mkF m 117 #[.val (.ref s0), .val (.int (0 : Int32)), .val (.int (3 : Int32)), .val (.double key), .second, .val (.int (3 : Int32)), .val (.int (2 : Int32)), .val (.int (2 : Int32)), .val (.double x2), .second, .unset, .unset, .unset, .unset] [(.int (-4 : Int32))])) _
    exact retOut X0 hx Bd.returns rfl (Or.inl ⟨rfl, Or.inl rfl, _, rfl⟩) (hb hby d10_117) hr
  · show Q_hi_10 Z s0 kA x0 x1 x2 key h0 n0 _ s₁.heap _
    rw [e0]
    exact ⟨rfl, N0, rfl⟩
def Q_hi_9 (Z : State) (s0 : Addr) (kA : ClassId) (x0 : UInt64) (x1 : UInt64) (x2 : UInt64) (key : UInt64) (h0 : Heap) (n0 : Nat) (v : Option Value) (h : Heap) (L : List Loc) : Prop := v = some (.int (-4 : Int32)) ∧ Fr n0 L ∧ h = h0
set_option maxRecDepth 65536 in
set_option maxHeartbeats 40000000 in
theorem hi_9 (l : Launch) (Z : State) (a0 : Array Value) (hw : ∀ d ∈ tables_1, d.before a0 Z = true) (ws : List Jvm.Cond) (s0 : Addr) (kA : ClassId) (x0 : UInt64) (x1 : UInt64) (x2 : UInt64) (key : UInt64) (h0 : Heap) (n0 : Nat) (Z0 : n0 ≤ h0.size) (V_s0 : Arv Z h0 s0 kA .double (3 : Int32) [(.double x0), (.double x1), (.double x2)] (.double (0 : UInt64))) (hd33_5 : (cmpValue (FP.dcmp x1 key) .g) = (-1 : Int32)) (hd33_1_5 : (cmpValue (FP.dcmp x2 key) .g) = (-1 : Int32)) :
    MetFree l (⟨"java/util/Arrays", "binarySearch", "([DD)I"⟩ : MethodName) (head1 (Jvm.Cond.code (⟨"java/util/Arrays", "binarySearch", "([DD)I"⟩ : MethodName) jdk_65_method_69_code 3 (some .int) :: ws) ({ frames := 1, cells := 0, slots := 0, locals := 25 } : Room)) (fun a U => a = #[(.ref s0), (.double key)] ∧ Z.Warmed39 U.vm ∧ U.heap = h0) (fun _ _ _ _ _ => True) (fun _ U o U' => ∃ v L, o = .returned v ∧ Q_hi_9 Z s0 kA x0 x1 x2 key h0 n0 v U'.heap L ∧ FrameEnd U o U' L ({ frames := 1, cells := 0, slots := 0, locals := 25 } : Room).cells ({ frames := 1, cells := 0, slots := 0, locals := 25 } : Room).slots) := by
  refine MetFree.of_bodySF (plainFor_of_name pn_java_util_Arrays) hisR ?_
  intro p e s m args below meth c s₁ Bd hml0 hP hK
  obtain ⟨rfl, hZ, hh⟩ := hP
  have hx := Bd.exec
  have hby := Bd.bytes
  have hml : c.maxLocals = 3 := hml0
  have hown : s.vm.findClass "java/util/Arrays" = some m.cls := findClass_of_methodNamed Bd.named
  have hnm := (name_of_methodNamed Bd.named Bd.method).1
  have X0 : Stand p l e ({ frames := 1, cells := 0, slots := 0, locals := 25 } : Room) s m #[(.ref s0), (.double key)] below meth c s₁ [] 0 0 := Stand.of_body Bd
  have e0 : s₁.heap = h0 := by rw [← hh, Bd.state]; rfl
  have N0 := Fr.nil n0
  have pre0 : ∀ t, Steps p.tables e below (s₁.setTop (mkF m 0 #[.val (.ref s0), .val (.double key), .second] [])) t → Steps p.tables e below (s₁.setTop (entryFrame m #[(.ref s0), (.double key)] 3)) t := fun t k => castTop (ef_9_RD m s0 key) k
  obtain ⟨cq1, Arq1, -, Sq1, Nq1, -, -⟩ := id V_s0
  obtain ⟨_, _, ⟨T2, L2, k2, n2⟩, -, X2, ⟨Lc2, hQ2, l2, y2, z2⟩, st2⟩ := Jvm.LawKit.callS X0 hx (y := (⟨"java/util/Arrays", "binarySearch0", "([DIID)I"⟩ : MethodName)) hown (mvT hZ (hw _ (List.mem_of_getElem? (i := 54) rfl))) (mvT hZ (hw _ (List.mem_of_getElem? (i := 55) rfl))) (mvT hZ (hw _ (List.mem_of_getElem? (i := 52) rfl))) (mvT hZ (hw _ (List.mem_of_getElem? (i := 56) rfl))) (by decide) (backOf (W := 0) (hi_10 l Z a0 hw [] s0 kA x0 x1 x2 key h0 n0 Z0 V_s0 hd33_5 hd33_1_5) hZ (hw _ (List.mem_of_getElem? (i := 56) rfl)) (hw _ (List.mem_of_getElem? (i := 52) rfl)) (by decide) (by decide)) (g := (mkF m 5 #[.val (.ref s0), .val (.double key), .second] [(.double key), (.int (3 : Int32)), (.int (0 : Int32)), (.ref s0)])) rfl (by rw [hml]; rfl) (argsL := [(.ref s0), (.int (0 : Int32)), (.int (3 : Int32)), (.double key)]) (rest := []) (lenOf pd_1 rfl) rfl (by show 2 * 0 + _ ≤ _; exact Nat.le_of_eq rfl) (hb hby d9_5) (fun _ _ => ⟨rfl, e0, (by decide : 0 + 0 ≤ _), (by decide : 0 + 0 ≤ _)⟩)
  dsimp only [Pt.U, Pt.locs, Pt.cells, Pt.slots] at X2 l2 y2 z2 st2 hQ2
  subst l2 y2 z2
  obtain ⟨rfl, N2q, eh2⟩ := hQ2
  have N2 := Fr.app N0 N2q
  have e2 : T2.heap = h0 := eh2
  obtain ⟨fs, hr, hrun, hended, hW, hsame⟩ := X2.leave (v := some (.int (-4 : Int32))) (fun h => by rw [Bd.returns] at h; cases h)
  refine ⟨_, _, pre0 _ ?_, hrun, hended, _, _, rfl, ?_, ⟨_, rfl⟩, hW, hsame.mono (by decide) (by decide)⟩
  · show Steps p.tables e below (s₁.setTop (mkF m 0 #[.val (.ref s0), .val (.double key), .second] [])) _
    refine XS.aloadN X0.here hx rfl (hb hby d9_0) rfl rfl ?_
    show Steps p.tables e below (s₁.setTop (mkF m 1 #[.val (.ref s0), .val (.double key), .second] [(.ref s0)])) _
    refine XS.iconst X0.here hx rfl (hb hby d9_1) ?_
    show Steps p.tables e below (s₁.setTop (mkF m 2 #[.val (.ref s0), .val (.double key), .second] [(.int (0 : Int32)), (.ref s0)])) _
    refine XS.aloadN X0.here hx rfl (hb hby d9_2) rfl rfl ?_
    show Steps p.tables e below (s₁.setTop (mkF m 3 #[.val (.ref s0), .val (.double key), .second] [(.ref s0), (.int (0 : Int32)), (.ref s0)])) _
    refine X0.arraylength hx (by rw [e0]; exact Arq1.1) (State.isArrayOf_alike hZ.alike Arq1.2.1) (g := (mkF m 3 #[.val (.ref s0), .val (.double key), .second] [(.ref s0), (.int (0 : Int32)), (.ref s0)])) rfl rfl (hb hby d9_3) _ ?_
    rw [len_of Sq1 Nq1]
    show Steps p.tables e below (s₁.setTop (mkF m 4 #[.val (.ref s0), .val (.double key), .second] [(.int (3 : Int32)), (.int (0 : Int32)), (.ref s0)])) _
    refine XS.dloadN X0.here hx rfl (hb hby d9_4) rfl ?_
    show Steps p.tables e below (s₁.setTop (mkF m 5 #[.val (.ref s0), .val (.double key), .second] [(.double key), (.int (3 : Int32)), (.int (0 : Int32)), (.ref s0)])) _
    refine st2 _ ?_
    show Steps p.tables e below (T2.setTop (mkF m 8 #[.val (.ref s0), .val (.double key), .second] [(.int (-4 : Int32))])) _
    exact retOut X2 hx Bd.returns rfl (Or.inl ⟨rfl, Or.inl rfl, _, rfl⟩) (hb hby d9_8) hr
  · show Q_hi_9 Z s0 kA x0 x1 x2 key h0 n0 _ T2.heap _
    rw [e2]
    exact ⟨rfl, N2, rfl⟩
theorem d10_62 : decode jdk_65_method_71_code 62 = .ok (.dload 8, 2) := by decide +kernel
theorem d10_64 : decode jdk_65_method_71_code 64 = .ok (.invokestatic 224, 3) := by decide +kernel
theorem pd_2 : parseMethodDescriptor "(D)J" = some ⟨[.double], some .long⟩ := by decide +kernel
theorem d10_67 : decode jdk_65_method_71_code 67 = .ok (.lstore 10, 2) := by decide +kernel
theorem d10_69 : decode jdk_65_method_71_code 69 = .ok (.dload_n 3, 1) := by decide +kernel
theorem d10_70 : decode jdk_65_method_71_code 70 = .ok (.invokestatic 224, 3) := by decide +kernel
theorem d10_73 : decode jdk_65_method_71_code 73 = .ok (.lstore 12, 2) := by decide +kernel
theorem d10_75 : decode jdk_65_method_71_code 75 = .ok (.lload 10, 2) := by decide +kernel
theorem d10_77 : decode jdk_65_method_71_code 77 = .ok (.lload 12, 2) := by decide +kernel
theorem d10_79 : decode jdk_65_method_71_code 79 = .ok (.lcmp, 1) := by decide +kernel
theorem d10_80 : decode jdk_65_method_71_code 80 = .ok (.ifCond .ne 6, 3) := by decide +kernel
theorem d10_83 : decode jdk_65_method_71_code 83 = .ok (.iload 7, 2) := by decide +kernel
theorem d10_85 : decode jdk_65_method_71_code 85 = .ok (.ireturn, 1) := by decide +kernel
def Q_e0_10 (Z : State) (s0 : Addr) (kA : ClassId) (x0 : UInt64) (x1 : UInt64) (x2 : UInt64) (h0 : Heap) (n0 : Nat) (v : Option Value) (h : Heap) (L : List Loc) : Prop := v = some (.int (0 : Int32)) ∧ Fr n0 L ∧ h = h0
set_option maxRecDepth 65536 in
set_option maxHeartbeats 40000000 in
theorem e0_10 (l : Launch) (Z : State) (a0 : Array Value) (hw : ∀ d ∈ tables_1, d.before a0 Z = true) (ws : List Jvm.Cond) (s0 : Addr) (kA : ClassId) (x0 : UInt64) (x1 : UInt64) (x2 : UInt64) (h0 : Heap) (n0 : Nat) (Z0 : n0 ≤ h0.size) (V_s0 : Arv Z h0 s0 kA .double (3 : Int32) [(.double x0), (.double x1), (.double x2)] (.double (0 : UInt64))) (hd33 : (cmpValue (FP.dcmp x1 x0) .g) = (1 : Int32)) (hd49 : (cmpValue (FP.dcmp x1 x0) .l) = (1 : Int32)) (hd33_1 : (cmpValue (FP.dcmp x0 x0) .g) = (0 : Int32)) (hd49_1 : (cmpValue (FP.dcmp x0 x0) .l) = (0 : Int32)) (hd2_1_64 : (cmpValue (FP.dcmp x0 x0) .l) = (0 : Int32)) (hd2_1_70 : (cmpValue (FP.dcmp x0 x0) .l) = (0 : Int32)) :
    MetFree l (⟨"java/util/Arrays", "binarySearch0", "([DIID)I"⟩ : MethodName) (head1 (Jvm.Cond.code (⟨"java/util/Arrays", "binarySearch0", "([DIID)I"⟩ : MethodName) jdk_65_method_71_code 14 (some .int) :: ws) ({ frames := 2, cells := 0, slots := 0, locals := 28 } : Room)) (fun a U => a = #[(.ref s0), (.int (0 : Int32)), (.int (3 : Int32)), (.double x0)] ∧ Z.Warmed39 U.vm ∧ U.heap = h0) (fun _ _ _ _ _ => True) (fun _ U o U' => ∃ v L, o = .returned v ∧ Q_e0_10 Z s0 kA x0 x1 x2 h0 n0 v U'.heap L ∧ FrameEnd U o U' L ({ frames := 2, cells := 0, slots := 0, locals := 28 } : Room).cells ({ frames := 2, cells := 0, slots := 0, locals := 28 } : Room).slots) := by
  refine MetFree.of_bodySF (plainFor_of_name pn_java_util_Arrays) hisR ?_
  intro p e s m args below meth c s₁ Bd hml0 hP hK
  obtain ⟨rfl, hZ, hh⟩ := hP
  have hx := Bd.exec
  have hby := Bd.bytes
  have hml : c.maxLocals = 14 := hml0
  have hown : s.vm.findClass "java/util/Arrays" = some m.cls := findClass_of_methodNamed Bd.named
  have hnm := (name_of_methodNamed Bd.named Bd.method).1
  have X0 : Stand p l e ({ frames := 2, cells := 0, slots := 0, locals := 28 } : Room) s m #[(.ref s0), (.int (0 : Int32)), (.int (3 : Int32)), (.double x0)] below meth c s₁ [] 0 0 := Stand.of_body Bd
  have e0 : s₁.heap = h0 := by rw [← hh, Bd.state]; rfl
  have N0 := Fr.nil n0
  have pre0 : ∀ t, Steps p.tables e below (s₁.setTop (mkF m 0 #[.val (.ref s0), .val (.int (0 : Int32)), .val (.int (3 : Int32)), .val (.double x0), .second, .unset, .unset, .unset, .unset, .unset, .unset, .unset, .unset, .unset] [])) t → Steps p.tables e below (s₁.setTop (entryFrame m #[(.ref s0), (.int (0 : Int32)), (.int (3 : Int32)), (.double x0)] 14)) t := fun t k => castTop (ef_10_Rl_0___Int32_l_3___Int32_D m s0 x0) k
  obtain ⟨cq1, Arq1, -, Sq1, -, Hq1, -⟩ := id V_s0
  obtain ⟨cq2, Arq2, -, Sq2, -, Hq2, -⟩ := id V_s0
  obtain ⟨_, _, ⟨T3, L3, k3, n3⟩, -, X3, ⟨Lc3, hQ3, l3, y3, z3⟩, st3⟩ := Jvm.LawKit.callS X0 hx (y := (⟨"java/lang/Double", "doubleToLongBits", "(D)J"⟩ : MethodName)) hown (mvT hZ (hw _ (List.mem_of_getElem? (i := 68) rfl))) (mvT hZ (hw _ (List.mem_of_getElem? (i := 69) rfl))) (mvT hZ (hw _ (List.mem_of_getElem? (i := 70) rfl))) (mvT hZ (hw _ (List.mem_of_getElem? (i := 71) rfl))) (by decide) (backOf (W := 0) (rm14 l Z a0 hw [] x0 h0 n0 Z0 hd2_1_64) hZ (hw _ (List.mem_of_getElem? (i := 71) rfl)) (hw _ (List.mem_of_getElem? (i := 70) rfl)) (by decide) (by decide)) (g := (mkF m 64 #[.val (.ref s0), .val (.int (0 : Int32)), .val (.int (3 : Int32)), .val (.double x0), .second, .val (.int (0 : Int32)), .val (.int (0 : Int32)), .val (.int (0 : Int32)), .val (.double x0), .second, .unset, .unset, .unset, .unset] [(.double x0)])) rfl (by rw [hml]; rfl) (argsL := [(.double x0)]) (rest := []) (lenOf pd_2 rfl) rfl (by show 2 * 0 + _ ≤ _; exact Nat.le_of_eq rfl) (hb hby d10_64) (fun _ _ => ⟨rfl, e0, (by decide : 0 + 0 ≤ _), (by decide : 0 + 0 ≤ _)⟩)
  dsimp only [Pt.U, Pt.locs, Pt.cells, Pt.slots] at X3 l3 y3 z3 st3 hQ3
  subst l3 y3 z3
  obtain ⟨rfl, N3q, eh3⟩ := hQ3
  have N3 := Fr.app N0 N3q
  have e3 : T3.heap = h0 := eh3
  obtain ⟨_, _, ⟨T4, L4, k4, n4⟩, -, X4, ⟨Lc4, hQ4, l4, y4, z4⟩, st4⟩ := Jvm.LawKit.callS X3 hx (y := (⟨"java/lang/Double", "doubleToLongBits", "(D)J"⟩ : MethodName)) hown (mvT hZ (hw _ (List.mem_of_getElem? (i := 68) rfl))) (mvT hZ (hw _ (List.mem_of_getElem? (i := 69) rfl))) (mvT hZ (hw _ (List.mem_of_getElem? (i := 70) rfl))) (mvT hZ (hw _ (List.mem_of_getElem? (i := 71) rfl))) (by decide) (backOf (W := 0) (rm14 l Z a0 hw [] x0 h0 n0 Z0 hd2_1_70) hZ (hw _ (List.mem_of_getElem? (i := 71) rfl)) (hw _ (List.mem_of_getElem? (i := 70) rfl)) (by decide) (by decide)) (g := (mkF m 70 #[.val (.ref s0), .val (.int (0 : Int32)), .val (.int (3 : Int32)), .val (.double x0), .second, .val (.int (0 : Int32)), .val (.int (0 : Int32)), .val (.int (0 : Int32)), .val (.double x0), .second, .val (.long (x0.toInt64)), .second, .unset, .unset] [(.double x0)])) rfl (by rw [hml]; rfl) (argsL := [(.double x0)]) (rest := []) (lenOf pd_2 rfl) rfl (by show 2 * 0 + _ ≤ _; exact Nat.le_of_eq rfl) (hb hby d10_70) (fun _ _ => ⟨rfl, e3, (by decide : 0 + 0 ≤ _), (by decide : 0 + 0 ≤ _)⟩)
  dsimp only [Pt.U, Pt.locs, Pt.cells, Pt.slots] at X4 l4 y4 z4 st4 hQ4
  subst l4 y4 z4
  obtain ⟨rfl, N4q, eh4⟩ := hQ4
  have N4 := Fr.app N3 N4q
  have e4 : T4.heap = h0 := eh4
  obtain ⟨fs, hr, hrun, hended, hW, hsame⟩ := X4.leave (v := some (.int (0 : Int32))) (fun h => by rw [Bd.returns] at h; cases h)
  refine ⟨_, _, pre0 _ ?_, hrun, hended, _, _, rfl, ?_, ⟨_, rfl⟩, hW, hsame.mono (by decide) (by decide)⟩
  · show Steps p.tables e below (s₁.setTop (mkF m 0 #[.val (.ref s0), .val (.int (0 : Int32)), .val (.int (3 : Int32)), .val (.double x0), .second, .unset, .unset, .unset, .unset, .unset, .unset, .unset, .unset, .unset] [])) _
    refine XS.iloadN X0.here hx rfl (hb hby d10_0) rfl ?_
    show Steps p.tables e below (s₁.setTop (mkF m 1 #[.val (.ref s0), .val (.int (0 : Int32)), .val (.int (3 : Int32)), .val (.double x0), .second, .unset, .unset, .unset, .unset, .unset, .unset, .unset, .unset, .unset] [(.int (0 : Int32))])) _
    refine XS.istore X0.here hx rfl (hb hby d10_1) rfl (l' := #[.val (.ref s0), .val (.int (0 : Int32)), .val (.int (3 : Int32)), .val (.double x0), .second, .val (.int (0 : Int32)), .unset, .unset, .unset, .unset, .unset, .unset, .unset, .unset]) rfl ?_
    show Steps p.tables e below (s₁.setTop (mkF m 3 #[.val (.ref s0), .val (.int (0 : Int32)), .val (.int (3 : Int32)), .val (.double x0), .second, .val (.int (0 : Int32)), .unset, .unset, .unset, .unset, .unset, .unset, .unset, .unset] [])) _
    refine XS.iloadN X0.here hx rfl (hb hby d10_3) rfl ?_
    show Steps p.tables e below (s₁.setTop (mkF m 4 #[.val (.ref s0), .val (.int (0 : Int32)), .val (.int (3 : Int32)), .val (.double x0), .second, .val (.int (0 : Int32)), .unset, .unset, .unset, .unset, .unset, .unset, .unset, .unset] [(.int (3 : Int32))])) _
    refine XS.iconst X0.here hx rfl (hb hby d10_4) ?_
    show Steps p.tables e below (s₁.setTop (mkF m 5 #[.val (.ref s0), .val (.int (0 : Int32)), .val (.int (3 : Int32)), .val (.double x0), .second, .val (.int (0 : Int32)), .unset, .unset, .unset, .unset, .unset, .unset, .unset, .unset] [(.int (1 : Int32)), (.int (3 : Int32))])) _
    refine XS.isub X0.here hx rfl (hb hby d10_5) rfl ?_
    show Steps p.tables e below (s₁.setTop (mkF m 6 #[.val (.ref s0), .val (.int (0 : Int32)), .val (.int (3 : Int32)), .val (.double x0), .second, .val (.int (0 : Int32)), .unset, .unset, .unset, .unset, .unset, .unset, .unset, .unset] [(.int ((3 : Int32) - (1 : Int32)))])) _
    rw [show ((3 : Int32) - (1 : Int32)) = (2 : Int32) by decide]
    show Steps p.tables e below (s₁.setTop (mkF m 6 #[.val (.ref s0), .val (.int (0 : Int32)), .val (.int (3 : Int32)), .val (.double x0), .second, .val (.int (0 : Int32)), .unset, .unset, .unset, .unset, .unset, .unset, .unset, .unset] [(.int (2 : Int32))])) _
    refine XS.istore X0.here hx rfl (hb hby d10_6) rfl (l' := #[.val (.ref s0), .val (.int (0 : Int32)), .val (.int (3 : Int32)), .val (.double x0), .second, .val (.int (0 : Int32)), .val (.int (2 : Int32)), .unset, .unset, .unset, .unset, .unset, .unset, .unset]) rfl ?_
    show Steps p.tables e below (s₁.setTop (mkF m 8 #[.val (.ref s0), .val (.int (0 : Int32)), .val (.int (3 : Int32)), .val (.double x0), .second, .val (.int (0 : Int32)), .val (.int (2 : Int32)), .unset, .unset, .unset, .unset, .unset, .unset, .unset] [])) _
    refine XS.iload X0.here hx rfl (hb hby d10_8) rfl ?_
    show Steps p.tables e below (s₁.setTop (mkF m 10 #[.val (.ref s0), .val (.int (0 : Int32)), .val (.int (3 : Int32)), .val (.double x0), .second, .val (.int (0 : Int32)), .val (.int (2 : Int32)), .unset, .unset, .unset, .unset, .unset, .unset, .unset] [(.int (0 : Int32))])) _
    refine XS.iload X0.here hx rfl (hb hby d10_10) rfl ?_
    show Steps p.tables e below (s₁.setTop (mkF m 12 #[.val (.ref s0), .val (.int (0 : Int32)), .val (.int (3 : Int32)), .val (.double x0), .second, .val (.int (0 : Int32)), .val (.int (2 : Int32)), .unset, .unset, .unset, .unset, .unset, .unset, .unset] [(.int (2 : Int32)), (.int (0 : Int32))])) _
    refine XS.icmpNo X0.here hx rfl (hb hby d10_12) rfl (flt (by decide : ¬ ((2 : Int32) < (0 : Int32)))).2.2.1 ?_
    show Steps p.tables e below (s₁.setTop (mkF m 15 #[.val (.ref s0), .val (.int (0 : Int32)), .val (.int (3 : Int32)), .val (.double x0), .second, .val (.int (0 : Int32)), .val (.int (2 : Int32)), .unset, .unset, .unset, .unset, .unset, .unset, .unset] [])) _
    refine XS.iload X0.here hx rfl (hb hby d10_15) rfl ?_
    show Steps p.tables e below (s₁.setTop (mkF m 17 #[.val (.ref s0), .val (.int (0 : Int32)), .val (.int (3 : Int32)), .val (.double x0), .second, .val (.int (0 : Int32)), .val (.int (2 : Int32)), .unset, .unset, .unset, .unset, .unset, .unset, .unset] [(.int (0 : Int32))])) _
    refine XS.iload X0.here hx rfl (hb hby d10_17) rfl ?_
    show Steps p.tables e below (s₁.setTop (mkF m 19 #[.val (.ref s0), .val (.int (0 : Int32)), .val (.int (3 : Int32)), .val (.double x0), .second, .val (.int (0 : Int32)), .val (.int (2 : Int32)), .unset, .unset, .unset, .unset, .unset, .unset, .unset] [(.int (2 : Int32)), (.int (0 : Int32))])) _
    refine XS.iadd X0.here hx rfl (hb hby d10_19) rfl ?_
    show Steps p.tables e below (s₁.setTop (mkF m 20 #[.val (.ref s0), .val (.int (0 : Int32)), .val (.int (3 : Int32)), .val (.double x0), .second, .val (.int (0 : Int32)), .val (.int (2 : Int32)), .unset, .unset, .unset, .unset, .unset, .unset, .unset] [(.int ((0 : Int32) + (2 : Int32)))])) _
    rw [show ((0 : Int32) + (2 : Int32)) = (2 : Int32) by decide]
    show Steps p.tables e below (s₁.setTop (mkF m 20 #[.val (.ref s0), .val (.int (0 : Int32)), .val (.int (3 : Int32)), .val (.double x0), .second, .val (.int (0 : Int32)), .val (.int (2 : Int32)), .unset, .unset, .unset, .unset, .unset, .unset, .unset] [(.int (2 : Int32))])) _
    refine XS.iconst X0.here hx rfl (hb hby d10_20) ?_
    show Steps p.tables e below (s₁.setTop (mkF m 21 #[.val (.ref s0), .val (.int (0 : Int32)), .val (.int (3 : Int32)), .val (.double x0), .second, .val (.int (0 : Int32)), .val (.int (2 : Int32)), .unset, .unset, .unset, .unset, .unset, .unset, .unset] [(.int (1 : Int32)), (.int (2 : Int32))])) _
    refine XS.iushr X0.here hx rfl (hb hby d10_21) rfl ?_
    show Steps p.tables e below (s₁.setTop (mkF m 22 #[.val (.ref s0), .val (.int (0 : Int32)), .val (.int (3 : Int32)), .val (.double x0), .second, .val (.int (0 : Int32)), .val (.int (2 : Int32)), .unset, .unset, .unset, .unset, .unset, .unset, .unset] [(.int (((2 : Int32).toUInt32 >>> ((1 : Int32) &&& 31).toUInt32).toInt32))])) _
    rw [show (((2 : Int32).toUInt32 >>> ((1 : Int32) &&& 31).toUInt32).toInt32) = (1 : Int32) by decide]
    show Steps p.tables e below (s₁.setTop (mkF m 22 #[.val (.ref s0), .val (.int (0 : Int32)), .val (.int (3 : Int32)), .val (.double x0), .second, .val (.int (0 : Int32)), .val (.int (2 : Int32)), .unset, .unset, .unset, .unset, .unset, .unset, .unset] [(.int (1 : Int32))])) _
    refine XS.istore X0.here hx rfl (hb hby d10_22) rfl (l' := #[.val (.ref s0), .val (.int (0 : Int32)), .val (.int (3 : Int32)), .val (.double x0), .second, .val (.int (0 : Int32)), .val (.int (2 : Int32)), .val (.int (1 : Int32)), .unset, .unset, .unset, .unset, .unset, .unset]) rfl ?_
    show Steps p.tables e below (s₁.setTop (mkF m 24 #[.val (.ref s0), .val (.int (0 : Int32)), .val (.int (3 : Int32)), .val (.double x0), .second, .val (.int (0 : Int32)), .val (.int (2 : Int32)), .val (.int (1 : Int32)), .unset, .unset, .unset, .unset, .unset, .unset] [])) _
    refine XS.aloadN X0.here hx rfl (hb hby d10_24) rfl rfl ?_
    show Steps p.tables e below (s₁.setTop (mkF m 25 #[.val (.ref s0), .val (.int (0 : Int32)), .val (.int (3 : Int32)), .val (.double x0), .second, .val (.int (0 : Int32)), .val (.int (2 : Int32)), .val (.int (1 : Int32)), .unset, .unset, .unset, .unset, .unset, .unset] [(.ref s0)])) _
    refine XS.iload X0.here hx rfl (hb hby d10_25) rfl ?_
    show Steps p.tables e below (s₁.setTop (mkF m 27 #[.val (.ref s0), .val (.int (0 : Int32)), .val (.int (3 : Int32)), .val (.double x0), .second, .val (.int (0 : Int32)), .val (.int (2 : Int32)), .val (.int (1 : Int32)), .unset, .unset, .unset, .unset, .unset, .unset] [(.int (1 : Int32)), (.ref s0)])) _
    refine X0.daload hx (j := (1 : Int32)) (v := (.double x1)) (by rw [e0]; exact Arq1.1) (State.isArrayOf_alike hZ.alike Arq1.2.1) Arq1.2.2 (inb_of Sq1 ⟨by decide, by decide⟩) (Has.at Hq1 (inb_of Sq1 ⟨by decide, by decide⟩) rfl) (g := (mkF m 27 #[.val (.ref s0), .val (.int (0 : Int32)), .val (.int (3 : Int32)), .val (.double x0), .second, .val (.int (0 : Int32)), .val (.int (2 : Int32)), .val (.int (1 : Int32)), .unset, .unset, .unset, .unset, .unset, .unset] [(.int (1 : Int32)), (.ref s0)])) rfl rfl (hb hby d10_27) _ ?_
    show Steps p.tables e below (s₁.setTop (mkF m 28 #[.val (.ref s0), .val (.int (0 : Int32)), .val (.int (3 : Int32)), .val (.double x0), .second, .val (.int (0 : Int32)), .val (.int (2 : Int32)), .val (.int (1 : Int32)), .unset, .unset, .unset, .unset, .unset, .unset] [(.double x1)])) _
    refine XS.dstore X0.here hx rfl (hb hby d10_28) rfl (l' := #[.val (.ref s0), .val (.int (0 : Int32)), .val (.int (3 : Int32)), .val (.double x0), .second, .val (.int (0 : Int32)), .val (.int (2 : Int32)), .val (.int (1 : Int32)), .val (.double x1), .second, .unset, .unset, .unset, .unset]) rfl ?_
    show Steps p.tables e below (s₁.setTop (mkF m 30 #[.val (.ref s0), .val (.int (0 : Int32)), .val (.int (3 : Int32)), .val (.double x0), .second, .val (.int (0 : Int32)), .val (.int (2 : Int32)), .val (.int (1 : Int32)), .val (.double x1), .second, .unset, .unset, .unset, .unset] [])) _
    refine XS.dload X0.here hx rfl (hb hby d10_30) rfl ?_
    show Steps p.tables e below (s₁.setTop (mkF m 32 #[.val (.ref s0), .val (.int (0 : Int32)), .val (.int (3 : Int32)), .val (.double x0), .second, .val (.int (0 : Int32)), .val (.int (2 : Int32)), .val (.int (1 : Int32)), .val (.double x1), .second, .unset, .unset, .unset, .unset] [(.double x1)])) _
    refine XS.dloadN X0.here hx rfl (hb hby d10_32) rfl ?_
    show Steps p.tables e below (s₁.setTop (mkF m 33 #[.val (.ref s0), .val (.int (0 : Int32)), .val (.int (3 : Int32)), .val (.double x0), .second, .val (.int (0 : Int32)), .val (.int (2 : Int32)), .val (.int (1 : Int32)), .val (.double x1), .second, .unset, .unset, .unset, .unset] [(.double x0), (.double x1)])) _
    refine XS.dcmpS X0.here hx rfl (hb hby d10_33) rfl (v := (1 : Int32)) hd33 ?_
    show Steps p.tables e below (s₁.setTop (mkF m 34 #[.val (.ref s0), .val (.int (0 : Int32)), .val (.int (3 : Int32)), .val (.double x0), .second, .val (.int (0 : Int32)), .val (.int (2 : Int32)), .val (.int (1 : Int32)), .val (.double x1), .second, .unset, .unset, .unset, .unset] [(.int (1 : Int32))])) _
    refine XS.ifYes X0.here hx rfl (pc0 := 34) (pc' := 46) rfl (hb hby d10_34) rfl ((if0 _ _).trans (flt (by decide : ¬ ((1 : Int32) < (0 : Int32)))).2.1) (by decide) (by decide) ?_
    show Steps p.tables e below (s₁.setTop (mkF m 46 #[.val (.ref s0), .val (.int (0 : Int32)), .val (.int (3 : Int32)), .val (.double x0), .second, .val (.int (0 : Int32)), .val (.int (2 : Int32)), .val (.int (1 : Int32)), .val (.double x1), .second, .unset, .unset, .unset, .unset] [])) _
    refine XS.dload X0.here hx rfl (hb hby d10_46) rfl ?_
    show Steps p.tables e below (s₁.setTop (mkF m 48 #[.val (.ref s0), .val (.int (0 : Int32)), .val (.int (3 : Int32)), .val (.double x0), .second, .val (.int (0 : Int32)), .val (.int (2 : Int32)), .val (.int (1 : Int32)), .val (.double x1), .second, .unset, .unset, .unset, .unset] [(.double x1)])) _
    refine XS.dloadN X0.here hx rfl (hb hby d10_48) rfl ?_
    show Steps p.tables e below (s₁.setTop (mkF m 49 #[.val (.ref s0), .val (.int (0 : Int32)), .val (.int (3 : Int32)), .val (.double x0), .second, .val (.int (0 : Int32)), .val (.int (2 : Int32)), .val (.int (1 : Int32)), .val (.double x1), .second, .unset, .unset, .unset, .unset] [(.double x0), (.double x1)])) _
    refine XS.dcmpS X0.here hx rfl (hb hby d10_49) rfl (v := (1 : Int32)) hd49 ?_
    show Steps p.tables e below (s₁.setTop (mkF m 50 #[.val (.ref s0), .val (.int (0 : Int32)), .val (.int (3 : Int32)), .val (.double x0), .second, .val (.int (0 : Int32)), .val (.int (2 : Int32)), .val (.int (1 : Int32)), .val (.double x1), .second, .unset, .unset, .unset, .unset] [(.int (1 : Int32))])) _
    refine XS.ifNo X0.here hx rfl (hb hby d10_50) rfl ((if0 _ _).trans (tlt (by decide : (0 : Int32) < (1 : Int32))).2.2.2) ?_
    show Steps p.tables e below (s₁.setTop (mkF m 53 #[.val (.ref s0), .val (.int (0 : Int32)), .val (.int (3 : Int32)), .val (.double x0), .second, .val (.int (0 : Int32)), .val (.int (2 : Int32)), .val (.int (1 : Int32)), .val (.double x1), .second, .unset, .unset, .unset, .unset] [])) _
    refine XS.iload X0.here hx rfl (hb hby d10_53) rfl ?_
    show Steps p.tables e below (s₁.setTop (mkF m 55 #[.val (.ref s0), .val (.int (0 : Int32)), .val (.int (3 : Int32)), .val (.double x0), .second, .val (.int (0 : Int32)), .val (.int (2 : Int32)), .val (.int (1 : Int32)), .val (.double x1), .second, .unset, .unset, .unset, .unset] [(.int (1 : Int32))])) _
    refine XS.iconst X0.here hx rfl (hb hby d10_55) ?_
    show Steps p.tables e below (s₁.setTop (mkF m 56 #[.val (.ref s0), .val (.int (0 : Int32)), .val (.int (3 : Int32)), .val (.double x0), .second, .val (.int (0 : Int32)), .val (.int (2 : Int32)), .val (.int (1 : Int32)), .val (.double x1), .second, .unset, .unset, .unset, .unset] [(.int (1 : Int32)), (.int (1 : Int32))])) _
    refine XS.isub X0.here hx rfl (hb hby d10_56) rfl ?_
    show Steps p.tables e below (s₁.setTop (mkF m 57 #[.val (.ref s0), .val (.int (0 : Int32)), .val (.int (3 : Int32)), .val (.double x0), .second, .val (.int (0 : Int32)), .val (.int (2 : Int32)), .val (.int (1 : Int32)), .val (.double x1), .second, .unset, .unset, .unset, .unset] [(.int ((1 : Int32) - (1 : Int32)))])) _
    rw [show ((1 : Int32) - (1 : Int32)) = (0 : Int32) by decide]
    show Steps p.tables e below (s₁.setTop (mkF m 57 #[.val (.ref s0), .val (.int (0 : Int32)), .val (.int (3 : Int32)), .val (.double x0), .second, .val (.int (0 : Int32)), .val (.int (2 : Int32)), .val (.int (1 : Int32)), .val (.double x1), .second, .unset, .unset, .unset, .unset] [(.int (0 : Int32))])) _
    refine XS.istore X0.here hx rfl (hb hby d10_57) rfl (l' := #[.val (.ref s0), .val (.int (0 : Int32)), .val (.int (3 : Int32)), .val (.double x0), .second, .val (.int (0 : Int32)), .val (.int (0 : Int32)), .val (.int (1 : Int32)), .val (.double x1), .second, .unset, .unset, .unset, .unset]) rfl ?_
    show Steps p.tables e below (s₁.setTop (mkF m 59 #[.val (.ref s0), .val (.int (0 : Int32)), .val (.int (3 : Int32)), .val (.double x0), .second, .val (.int (0 : Int32)), .val (.int (0 : Int32)), .val (.int (1 : Int32)), .val (.double x1), .second, .unset, .unset, .unset, .unset] [])) _
    refine XS.goto X0.here hx rfl (pc0 := 59) (pc' := 109) rfl (hb hby d10_59) (by decide) (by decide) ?_
    show Steps p.tables e below (s₁.setTop (mkF m 109 #[.val (.ref s0), .val (.int (0 : Int32)), .val (.int (3 : Int32)), .val (.double x0), .second, .val (.int (0 : Int32)), .val (.int (0 : Int32)), .val (.int (1 : Int32)), .val (.double x1), .second, .unset, .unset, .unset, .unset] [])) _
    refine XS.goto X0.here hx rfl (pc0 := 109) (pc' := 8) rfl (hb hby d10_109) (by decide) (by decide) ?_
    show Steps p.tables e below (s₁.setTop (mkF m 8 #[.val (.ref s0), .val (.int (0 : Int32)), .val (.int (3 : Int32)), .val (.double x0), .second, .val (.int (0 : Int32)), .val (.int (0 : Int32)), .val (.int (1 : Int32)), .val (.double x1), .second, .unset, .unset, .unset, .unset] [])) _
    refine XS.iload X0.here hx rfl (hb hby d10_8) rfl ?_
    show Steps p.tables e below (s₁.setTop (mkF m 10 #[.val (.ref s0), .val (.int (0 : Int32)), .val (.int (3 : Int32)), .val (.double x0), .second, .val (.int (0 : Int32)), .val (.int (0 : Int32)), .val (.int (1 : Int32)), .val (.double x1), .second, .unset, .unset, .unset, .unset] [(.int (0 : Int32))])) _
    refine XS.iload X0.here hx rfl (hb hby d10_10) rfl ?_
    show Steps p.tables e below (s₁.setTop (mkF m 12 #[.val (.ref s0), .val (.int (0 : Int32)), .val (.int (3 : Int32)), .val (.double x0), .second, .val (.int (0 : Int32)), .val (.int (0 : Int32)), .val (.int (1 : Int32)), .val (.double x1), .second, .unset, .unset, .unset, .unset] [(.int (0 : Int32)), (.int (0 : Int32))])) _
    refine XS.icmpNo X0.here hx rfl (hb hby d10_12) rfl (flt (by decide : ¬ ((0 : Int32) < (0 : Int32)))).2.2.1 ?_
    show Steps p.tables e below (s₁.setTop (mkF m 15 #[.val (.ref s0), .val (.int (0 : Int32)), .val (.int (3 : Int32)), .val (.double x0), .second, .val (.int (0 : Int32)), .val (.int (0 : Int32)), .val (.int (1 : Int32)), .val (.double x1), .second, .unset, .unset, .unset, .unset] [])) _
    refine XS.iload X0.here hx rfl (hb hby d10_15) rfl ?_
    show Steps p.tables e below (s₁.setTop (mkF m 17 #[.val (.ref s0), .val (.int (0 : Int32)), .val (.int (3 : Int32)), .val (.double x0), .second, .val (.int (0 : Int32)), .val (.int (0 : Int32)), .val (.int (1 : Int32)), .val (.double x1), .second, .unset, .unset, .unset, .unset] [(.int (0 : Int32))])) _
    refine XS.iload X0.here hx rfl (hb hby d10_17) rfl ?_
    show Steps p.tables e below (s₁.setTop (mkF m 19 #[.val (.ref s0), .val (.int (0 : Int32)), .val (.int (3 : Int32)), .val (.double x0), .second, .val (.int (0 : Int32)), .val (.int (0 : Int32)), .val (.int (1 : Int32)), .val (.double x1), .second, .unset, .unset, .unset, .unset] [(.int (0 : Int32)), (.int (0 : Int32))])) _
    refine XS.iadd X0.here hx rfl (hb hby d10_19) rfl ?_
    show Steps p.tables e below (s₁.setTop (mkF m 20 #[.val (.ref s0), .val (.int (0 : Int32)), .val (.int (3 : Int32)), .val (.double x0), .second, .val (.int (0 : Int32)), .val (.int (0 : Int32)), .val (.int (1 : Int32)), .val (.double x1), .second, .unset, .unset, .unset, .unset] [(.int ((0 : Int32) + (0 : Int32)))])) _
    rw [show ((0 : Int32) + (0 : Int32)) = (0 : Int32) by decide]
    show Steps p.tables e below (s₁.setTop (mkF m 20 #[.val (.ref s0), .val (.int (0 : Int32)), .val (.int (3 : Int32)), .val (.double x0), .second, .val (.int (0 : Int32)), .val (.int (0 : Int32)), .val (.int (1 : Int32)), .val (.double x1), .second, .unset, .unset, .unset, .unset] [(.int (0 : Int32))])) _
    refine XS.iconst X0.here hx rfl (hb hby d10_20) ?_
    show Steps p.tables e below (s₁.setTop (mkF m 21 #[.val (.ref s0), .val (.int (0 : Int32)), .val (.int (3 : Int32)), .val (.double x0), .second, .val (.int (0 : Int32)), .val (.int (0 : Int32)), .val (.int (1 : Int32)), .val (.double x1), .second, .unset, .unset, .unset, .unset] [(.int (1 : Int32)), (.int (0 : Int32))])) _
    refine XS.iushr X0.here hx rfl (hb hby d10_21) rfl ?_
    show Steps p.tables e below (s₁.setTop (mkF m 22 #[.val (.ref s0), .val (.int (0 : Int32)), .val (.int (3 : Int32)), .val (.double x0), .second, .val (.int (0 : Int32)), .val (.int (0 : Int32)), .val (.int (1 : Int32)), .val (.double x1), .second, .unset, .unset, .unset, .unset] [(.int (((0 : Int32).toUInt32 >>> ((1 : Int32) &&& 31).toUInt32).toInt32))])) _
    rw [show (((0 : Int32).toUInt32 >>> ((1 : Int32) &&& 31).toUInt32).toInt32) = (0 : Int32) by decide]
    show Steps p.tables e below (s₁.setTop (mkF m 22 #[.val (.ref s0), .val (.int (0 : Int32)), .val (.int (3 : Int32)), .val (.double x0), .second, .val (.int (0 : Int32)), .val (.int (0 : Int32)), .val (.int (1 : Int32)), .val (.double x1), .second, .unset, .unset, .unset, .unset] [(.int (0 : Int32))])) _
    refine XS.istore X0.here hx rfl (hb hby d10_22) rfl (l' := #[.val (.ref s0), .val (.int (0 : Int32)), .val (.int (3 : Int32)), .val (.double x0), .second, .val (.int (0 : Int32)), .val (.int (0 : Int32)), .val (.int (0 : Int32)), .val (.double x1), .second, .unset, .unset, .unset, .unset]) rfl ?_
    show Steps p.tables e below (s₁.setTop (mkF m 24 #[.val (.ref s0), .val (.int (0 : Int32)), .val (.int (3 : Int32)), .val (.double x0), .second, .val (.int (0 : Int32)), .val (.int (0 : Int32)), .val (.int (0 : Int32)), .val (.double x1), .second, .unset, .unset, .unset, .unset] [])) _
    refine XS.aloadN X0.here hx rfl (hb hby d10_24) rfl rfl ?_
    show Steps p.tables e below (s₁.setTop (mkF m 25 #[.val (.ref s0), .val (.int (0 : Int32)), .val (.int (3 : Int32)), .val (.double x0), .second, .val (.int (0 : Int32)), .val (.int (0 : Int32)), .val (.int (0 : Int32)), .val (.double x1), .second, .unset, .unset, .unset, .unset] [(.ref s0)])) _
    refine XS.iload X0.here hx rfl (hb hby d10_25) rfl ?_
    show Steps p.tables e below (s₁.setTop (mkF m 27 #[.val (.ref s0), .val (.int (0 : Int32)), .val (.int (3 : Int32)), .val (.double x0), .second, .val (.int (0 : Int32)), .val (.int (0 : Int32)), .val (.int (0 : Int32)), .val (.double x1), .second, .unset, .unset, .unset, .unset] [(.int (0 : Int32)), (.ref s0)])) _
    refine X0.daload hx (j := (0 : Int32)) (v := (.double x0)) (by rw [e0]; exact Arq2.1) (State.isArrayOf_alike hZ.alike Arq2.2.1) Arq2.2.2 (inb_of Sq2 ⟨by decide, by decide⟩) (Has.at Hq2 (inb_of Sq2 ⟨by decide, by decide⟩) rfl) (g := (mkF m 27 #[.val (.ref s0), .val (.int (0 : Int32)), .val (.int (3 : Int32)), .val (.double x0), .second, .val (.int (0 : Int32)), .val (.int (0 : Int32)), .val (.int (0 : Int32)), .val (.double x1), .second, .unset, .unset, .unset, .unset] [(.int (0 : Int32)), (.ref s0)])) rfl rfl (hb hby d10_27) _ ?_
    show Steps p.tables e below (s₁.setTop (mkF m 28 #[.val (.ref s0), .val (.int (0 : Int32)), .val (.int (3 : Int32)), .val (.double x0), .second, .val (.int (0 : Int32)), .val (.int (0 : Int32)), .val (.int (0 : Int32)), .val (.double x1), .second, .unset, .unset, .unset, .unset] [(.double x0)])) _
    refine XS.dstore X0.here hx rfl (hb hby d10_28) rfl (l' := #[.val (.ref s0), .val (.int (0 : Int32)), .val (.int (3 : Int32)), .val (.double x0), .second, .val (.int (0 : Int32)), .val (.int (0 : Int32)), .val (.int (0 : Int32)), .val (.double x0), .second, .unset, .unset, .unset, .unset]) rfl ?_
    show Steps p.tables e below (s₁.setTop (mkF m 30 #[.val (.ref s0), .val (.int (0 : Int32)), .val (.int (3 : Int32)), .val (.double x0), .second, .val (.int (0 : Int32)), .val (.int (0 : Int32)), .val (.int (0 : Int32)), .val (.double x0), .second, .unset, .unset, .unset, .unset] [])) _
    refine XS.dload X0.here hx rfl (hb hby d10_30) rfl ?_
    show Steps p.tables e below (s₁.setTop (mkF m 32 #[.val (.ref s0), .val (.int (0 : Int32)), .val (.int (3 : Int32)), .val (.double x0), .second, .val (.int (0 : Int32)), .val (.int (0 : Int32)), .val (.int (0 : Int32)), .val (.double x0), .second, .unset, .unset, .unset, .unset] [(.double x0)])) _
    refine XS.dloadN X0.here hx rfl (hb hby d10_32) rfl ?_
    show Steps p.tables e below (s₁.setTop (mkF m 33 #[.val (.ref s0), .val (.int (0 : Int32)), .val (.int (3 : Int32)), .val (.double x0), .second, .val (.int (0 : Int32)), .val (.int (0 : Int32)), .val (.int (0 : Int32)), .val (.double x0), .second, .unset, .unset, .unset, .unset] [(.double x0), (.double x0)])) _
    refine XS.dcmpS X0.here hx rfl (hb hby d10_33) rfl (v := (0 : Int32)) hd33_1 ?_
    show Steps p.tables e below (s₁.setTop (mkF m 34 #[.val (.ref s0), .val (.int (0 : Int32)), .val (.int (3 : Int32)), .val (.double x0), .second, .val (.int (0 : Int32)), .val (.int (0 : Int32)), .val (.int (0 : Int32)), .val (.double x0), .second, .unset, .unset, .unset, .unset] [(.int (0 : Int32))])) _
    refine XS.ifYes X0.here hx rfl (pc0 := 34) (pc' := 46) rfl (hb hby d10_34) rfl ((if0 _ _).trans (flt (by decide : ¬ ((0 : Int32) < (0 : Int32)))).2.1) (by decide) (by decide) ?_
    show Steps p.tables e below (s₁.setTop (mkF m 46 #[.val (.ref s0), .val (.int (0 : Int32)), .val (.int (3 : Int32)), .val (.double x0), .second, .val (.int (0 : Int32)), .val (.int (0 : Int32)), .val (.int (0 : Int32)), .val (.double x0), .second, .unset, .unset, .unset, .unset] [])) _
    refine XS.dload X0.here hx rfl (hb hby d10_46) rfl ?_
    show Steps p.tables e below (s₁.setTop (mkF m 48 #[.val (.ref s0), .val (.int (0 : Int32)), .val (.int (3 : Int32)), .val (.double x0), .second, .val (.int (0 : Int32)), .val (.int (0 : Int32)), .val (.int (0 : Int32)), .val (.double x0), .second, .unset, .unset, .unset, .unset] [(.double x0)])) _
    refine XS.dloadN X0.here hx rfl (hb hby d10_48) rfl ?_
    show Steps p.tables e below (s₁.setTop (mkF m 49 #[.val (.ref s0), .val (.int (0 : Int32)), .val (.int (3 : Int32)), .val (.double x0), .second, .val (.int (0 : Int32)), .val (.int (0 : Int32)), .val (.int (0 : Int32)), .val (.double x0), .second, .unset, .unset, .unset, .unset] [(.double x0), (.double x0)])) _
    refine XS.dcmpS X0.here hx rfl (hb hby d10_49) rfl (v := (0 : Int32)) hd49_1 ?_
    show Steps p.tables e below (s₁.setTop (mkF m 50 #[.val (.ref s0), .val (.int (0 : Int32)), .val (.int (3 : Int32)), .val (.double x0), .second, .val (.int (0 : Int32)), .val (.int (0 : Int32)), .val (.int (0 : Int32)), .val (.double x0), .second, .unset, .unset, .unset, .unset] [(.int (0 : Int32))])) _
    refine XS.ifYes X0.here hx rfl (pc0 := 50) (pc' := 62) rfl (hb hby d10_50) rfl ((if0 _ _).trans (flt (by decide : ¬ ((0 : Int32) < (0 : Int32)))).2.2.2) (by decide) (by decide) ?_
    show Steps p.tables e below (s₁.setTop (mkF m 62 #[.val (.ref s0), .val (.int (0 : Int32)), .val (.int (3 : Int32)), .val (.double x0), .second, .val (.int (0 : Int32)), .val (.int (0 : Int32)), .val (.int (0 : Int32)), .val (.double x0), .second, .unset, .unset, .unset, .unset] [])) _
    refine XS.dload X0.here hx rfl (hb hby d10_62) rfl ?_
    show Steps p.tables e below (s₁.setTop (mkF m 64 #[.val (.ref s0), .val (.int (0 : Int32)), .val (.int (3 : Int32)), .val (.double x0), .second, .val (.int (0 : Int32)), .val (.int (0 : Int32)), .val (.int (0 : Int32)), .val (.double x0), .second, .unset, .unset, .unset, .unset] [(.double x0)])) _
    refine st3 _ ?_
    show Steps p.tables e below (T3.setTop (mkF m 67 #[.val (.ref s0), .val (.int (0 : Int32)), .val (.int (3 : Int32)), .val (.double x0), .second, .val (.int (0 : Int32)), .val (.int (0 : Int32)), .val (.int (0 : Int32)), .val (.double x0), .second, .unset, .unset, .unset, .unset] [(.long (x0.toInt64))])) _
    refine XS.lstore X3.here hx rfl (hb hby d10_67) rfl (l' := #[.val (.ref s0), .val (.int (0 : Int32)), .val (.int (3 : Int32)), .val (.double x0), .second, .val (.int (0 : Int32)), .val (.int (0 : Int32)), .val (.int (0 : Int32)), .val (.double x0), .second, .val (.long (x0.toInt64)), .second, .unset, .unset]) rfl ?_
    show Steps p.tables e below (T3.setTop (mkF m 69 #[.val (.ref s0), .val (.int (0 : Int32)), .val (.int (3 : Int32)), .val (.double x0), .second, .val (.int (0 : Int32)), .val (.int (0 : Int32)), .val (.int (0 : Int32)), .val (.double x0), .second, .val (.long (x0.toInt64)), .second, .unset, .unset] [])) _
    refine XS.dloadN X3.here hx rfl (hb hby d10_69) rfl ?_
    show Steps p.tables e below (T3.setTop (mkF m 70 #[.val (.ref s0), .val (.int (0 : Int32)), .val (.int (3 : Int32)), .val (.double x0), .second, .val (.int (0 : Int32)), .val (.int (0 : Int32)), .val (.int (0 : Int32)), .val (.double x0), .second, .val (.long (x0.toInt64)), .second, .unset, .unset] [(.double x0)])) _
    refine st4 _ ?_
    show Steps p.tables e below (T4.setTop (mkF m 73 #[.val (.ref s0), .val (.int (0 : Int32)), .val (.int (3 : Int32)), .val (.double x0), .second, .val (.int (0 : Int32)), .val (.int (0 : Int32)), .val (.int (0 : Int32)), .val (.double x0), .second, .val (.long (x0.toInt64)), .second, .unset, .unset] [(.long (x0.toInt64))])) _
    refine XS.lstore X4.here hx rfl (hb hby d10_73) rfl (l' := #[.val (.ref s0), .val (.int (0 : Int32)), .val (.int (3 : Int32)), .val (.double x0), .second, .val (.int (0 : Int32)), .val (.int (0 : Int32)), .val (.int (0 : Int32)), .val (.double x0), .second, .val (.long (x0.toInt64)), .second, .val (.long (x0.toInt64)), .second]) rfl ?_
    show Steps p.tables e below (T4.setTop (mkF m 75 #[.val (.ref s0), .val (.int (0 : Int32)), .val (.int (3 : Int32)), .val (.double x0), .second, .val (.int (0 : Int32)), .val (.int (0 : Int32)), .val (.int (0 : Int32)), .val (.double x0), .second, .val (.long (x0.toInt64)), .second, .val (.long (x0.toInt64)), .second] [])) _
    refine XS.lload X4.here hx rfl (hb hby d10_75) rfl ?_
    show Steps p.tables e below (T4.setTop (mkF m 77 #[.val (.ref s0), .val (.int (0 : Int32)), .val (.int (3 : Int32)), .val (.double x0), .second, .val (.int (0 : Int32)), .val (.int (0 : Int32)), .val (.int (0 : Int32)), .val (.double x0), .second, .val (.long (x0.toInt64)), .second, .val (.long (x0.toInt64)), .second] [(.long (x0.toInt64))])) _
    refine XS.lload X4.here hx rfl (hb hby d10_77) rfl ?_
    show Steps p.tables e below (T4.setTop (mkF m 79 #[.val (.ref s0), .val (.int (0 : Int32)), .val (.int (3 : Int32)), .val (.double x0), .second, .val (.int (0 : Int32)), .val (.int (0 : Int32)), .val (.int (0 : Int32)), .val (.double x0), .second, .val (.long (x0.toInt64)), .second, .val (.long (x0.toInt64)), .second] [(.long (x0.toInt64)), (.long (x0.toInt64))])) _
    refine XS.lcmp X4.here hx rfl (hb hby d10_79) rfl ?_
    show Steps p.tables e below (T4.setTop (mkF m 80 #[.val (.ref s0), .val (.int (0 : Int32)), .val (.int (3 : Int32)), .val (.double x0), .second, .val (.int (0 : Int32)), .val (.int (0 : Int32)), .val (.int (0 : Int32)), .val (.double x0), .second, .val (.long (x0.toInt64)), .second, .val (.long (x0.toInt64)), .second] [(.int (lcmpW (x0.toInt64) (x0.toInt64)))])) _
    refine XS.ifNo X4.here hx rfl (hb hby d10_80) rfl ((if0 _ _).trans (teq ((lw_eq _ _).mpr rfl : (lcmpW (x0.toInt64) (x0.toInt64)) = (0 : Int32))).2) ?_
    show Steps p.tables e below (T4.setTop (mkF m 83 #[.val (.ref s0), .val (.int (0 : Int32)), .val (.int (3 : Int32)), .val (.double x0), .second, .val (.int (0 : Int32)), .val (.int (0 : Int32)), .val (.int (0 : Int32)), .val (.double x0), .second, .val (.long (x0.toInt64)), .second, .val (.long (x0.toInt64)), .second] [])) _
    refine XS.iload X4.here hx rfl (hb hby d10_83) rfl ?_
    show Steps p.tables e below (T4.setTop (mkF m 85 #[.val (.ref s0), .val (.int (0 : Int32)), .val (.int (3 : Int32)), .val (.double x0), .second, .val (.int (0 : Int32)), .val (.int (0 : Int32)), .val (.int (0 : Int32)), .val (.double x0), .second, .val (.long (x0.toInt64)), .second, .val (.long (x0.toInt64)), .second] [(.int (0 : Int32))])) _
    exact retOut X4 hx Bd.returns rfl (Or.inl ⟨rfl, Or.inl rfl, _, rfl⟩) (hb hby d10_85) hr
  · show Q_e0_10 Z s0 kA x0 x1 x2 h0 n0 _ T4.heap _
    rw [e4]
    exact ⟨rfl, N4, rfl⟩
def Q_e0_9 (Z : State) (s0 : Addr) (kA : ClassId) (x0 : UInt64) (x1 : UInt64) (x2 : UInt64) (h0 : Heap) (n0 : Nat) (v : Option Value) (h : Heap) (L : List Loc) : Prop := v = some (.int (0 : Int32)) ∧ Fr n0 L ∧ h = h0
set_option maxRecDepth 65536 in
set_option maxHeartbeats 40000000 in
theorem e0_9 (l : Launch) (Z : State) (a0 : Array Value) (hw : ∀ d ∈ tables_1, d.before a0 Z = true) (ws : List Jvm.Cond) (s0 : Addr) (kA : ClassId) (x0 : UInt64) (x1 : UInt64) (x2 : UInt64) (h0 : Heap) (n0 : Nat) (Z0 : n0 ≤ h0.size) (V_s0 : Arv Z h0 s0 kA .double (3 : Int32) [(.double x0), (.double x1), (.double x2)] (.double (0 : UInt64))) (hd33_5 : (cmpValue (FP.dcmp x1 x0) .g) = (1 : Int32)) (hd49_5 : (cmpValue (FP.dcmp x1 x0) .l) = (1 : Int32)) (hd33_1_5 : (cmpValue (FP.dcmp x0 x0) .g) = (0 : Int32)) (hd49_1_5 : (cmpValue (FP.dcmp x0 x0) .l) = (0 : Int32)) (hd2_1_64_5 : (cmpValue (FP.dcmp x0 x0) .l) = (0 : Int32)) (hd2_1_70_5 : (cmpValue (FP.dcmp x0 x0) .l) = (0 : Int32)) :
    MetFree l (⟨"java/util/Arrays", "binarySearch", "([DD)I"⟩ : MethodName) (head1 (Jvm.Cond.code (⟨"java/util/Arrays", "binarySearch", "([DD)I"⟩ : MethodName) jdk_65_method_69_code 3 (some .int) :: ws) ({ frames := 3, cells := 0, slots := 0, locals := 53 } : Room)) (fun a U => a = #[(.ref s0), (.double x0)] ∧ Z.Warmed39 U.vm ∧ U.heap = h0) (fun _ _ _ _ _ => True) (fun _ U o U' => ∃ v L, o = .returned v ∧ Q_e0_9 Z s0 kA x0 x1 x2 h0 n0 v U'.heap L ∧ FrameEnd U o U' L ({ frames := 3, cells := 0, slots := 0, locals := 53 } : Room).cells ({ frames := 3, cells := 0, slots := 0, locals := 53 } : Room).slots) := by
  refine MetFree.of_bodySF (plainFor_of_name pn_java_util_Arrays) hisR ?_
  intro p e s m args below meth c s₁ Bd hml0 hP hK
  obtain ⟨rfl, hZ, hh⟩ := hP
  have hx := Bd.exec
  have hby := Bd.bytes
  have hml : c.maxLocals = 3 := hml0
  have hown : s.vm.findClass "java/util/Arrays" = some m.cls := findClass_of_methodNamed Bd.named
  have hnm := (name_of_methodNamed Bd.named Bd.method).1
  have X0 : Stand p l e ({ frames := 3, cells := 0, slots := 0, locals := 53 } : Room) s m #[(.ref s0), (.double x0)] below meth c s₁ [] 0 0 := Stand.of_body Bd
  have e0 : s₁.heap = h0 := by rw [← hh, Bd.state]; rfl
  have N0 := Fr.nil n0
  have pre0 : ∀ t, Steps p.tables e below (s₁.setTop (mkF m 0 #[.val (.ref s0), .val (.double x0), .second] [])) t → Steps p.tables e below (s₁.setTop (entryFrame m #[(.ref s0), (.double x0)] 3)) t := fun t k => castTop (ef_9_RD m s0 x0) k
  obtain ⟨cq1, Arq1, -, Sq1, Nq1, -, -⟩ := id V_s0
  obtain ⟨_, _, ⟨T2, L2, k2, n2⟩, -, X2, ⟨Lc2, hQ2, l2, y2, z2⟩, st2⟩ := Jvm.LawKit.callS X0 hx (y := (⟨"java/util/Arrays", "binarySearch0", "([DIID)I"⟩ : MethodName)) hown (mvT hZ (hw _ (List.mem_of_getElem? (i := 54) rfl))) (mvT hZ (hw _ (List.mem_of_getElem? (i := 55) rfl))) (mvT hZ (hw _ (List.mem_of_getElem? (i := 52) rfl))) (mvT hZ (hw _ (List.mem_of_getElem? (i := 56) rfl))) (by decide) (backOf (W := 0) (e0_10 l Z a0 hw [] s0 kA x0 x1 x2 h0 n0 Z0 V_s0 hd33_5 hd49_5 hd33_1_5 hd49_1_5 hd2_1_64_5 hd2_1_70_5) hZ (hw _ (List.mem_of_getElem? (i := 56) rfl)) (hw _ (List.mem_of_getElem? (i := 52) rfl)) (by decide) (by decide)) (g := (mkF m 5 #[.val (.ref s0), .val (.double x0), .second] [(.double x0), (.int (3 : Int32)), (.int (0 : Int32)), (.ref s0)])) rfl (by rw [hml]; rfl) (argsL := [(.ref s0), (.int (0 : Int32)), (.int (3 : Int32)), (.double x0)]) (rest := []) (lenOf pd_1 rfl) rfl (by show 2 * 0 + _ ≤ _; exact Nat.le_of_eq rfl) (hb hby d9_5) (fun _ _ => ⟨rfl, e0, (by decide : 0 + 0 ≤ _), (by decide : 0 + 0 ≤ _)⟩)
  dsimp only [Pt.U, Pt.locs, Pt.cells, Pt.slots] at X2 l2 y2 z2 st2 hQ2
  subst l2 y2 z2
  obtain ⟨rfl, N2q, eh2⟩ := hQ2
  have N2 := Fr.app N0 N2q
  have e2 : T2.heap = h0 := eh2
  obtain ⟨fs, hr, hrun, hended, hW, hsame⟩ := X2.leave (v := some (.int (0 : Int32))) (fun h => by rw [Bd.returns] at h; cases h)
  refine ⟨_, _, pre0 _ ?_, hrun, hended, _, _, rfl, ?_, ⟨_, rfl⟩, hW, hsame.mono (by decide) (by decide)⟩
  · show Steps p.tables e below (s₁.setTop (mkF m 0 #[.val (.ref s0), .val (.double x0), .second] [])) _
    refine XS.aloadN X0.here hx rfl (hb hby d9_0) rfl rfl ?_
    show Steps p.tables e below (s₁.setTop (mkF m 1 #[.val (.ref s0), .val (.double x0), .second] [(.ref s0)])) _
    refine XS.iconst X0.here hx rfl (hb hby d9_1) ?_
    show Steps p.tables e below (s₁.setTop (mkF m 2 #[.val (.ref s0), .val (.double x0), .second] [(.int (0 : Int32)), (.ref s0)])) _
    refine XS.aloadN X0.here hx rfl (hb hby d9_2) rfl rfl ?_
    show Steps p.tables e below (s₁.setTop (mkF m 3 #[.val (.ref s0), .val (.double x0), .second] [(.ref s0), (.int (0 : Int32)), (.ref s0)])) _
    refine X0.arraylength hx (by rw [e0]; exact Arq1.1) (State.isArrayOf_alike hZ.alike Arq1.2.1) (g := (mkF m 3 #[.val (.ref s0), .val (.double x0), .second] [(.ref s0), (.int (0 : Int32)), (.ref s0)])) rfl rfl (hb hby d9_3) _ ?_
    rw [len_of Sq1 Nq1]
    show Steps p.tables e below (s₁.setTop (mkF m 4 #[.val (.ref s0), .val (.double x0), .second] [(.int (3 : Int32)), (.int (0 : Int32)), (.ref s0)])) _
    refine XS.dloadN X0.here hx rfl (hb hby d9_4) rfl ?_
    show Steps p.tables e below (s₁.setTop (mkF m 5 #[.val (.ref s0), .val (.double x0), .second] [(.double x0), (.int (3 : Int32)), (.int (0 : Int32)), (.ref s0)])) _
    refine st2 _ ?_
    show Steps p.tables e below (T2.setTop (mkF m 8 #[.val (.ref s0), .val (.double x0), .second] [(.int (0 : Int32))])) _
    exact retOut X2 hx Bd.returns rfl (Or.inl ⟨rfl, Or.inl rfl, _, rfl⟩) (hb hby d9_8) hr
  · show Q_e0_9 Z s0 kA x0 x1 x2 h0 n0 _ T2.heap _
    rw [e2]
    exact ⟨rfl, N2, rfl⟩
def Q_e1_10 (Z : State) (s0 : Addr) (kA : ClassId) (x0 : UInt64) (x1 : UInt64) (x2 : UInt64) (h0 : Heap) (n0 : Nat) (v : Option Value) (h : Heap) (L : List Loc) : Prop := v = some (.int (1 : Int32)) ∧ Fr n0 L ∧ h = h0
set_option maxRecDepth 65536 in
set_option maxHeartbeats 40000000 in
theorem e1_10 (l : Launch) (Z : State) (a0 : Array Value) (hw : ∀ d ∈ tables_1, d.before a0 Z = true) (ws : List Jvm.Cond) (s0 : Addr) (kA : ClassId) (x0 : UInt64) (x1 : UInt64) (x2 : UInt64) (h0 : Heap) (n0 : Nat) (Z0 : n0 ≤ h0.size) (V_s0 : Arv Z h0 s0 kA .double (3 : Int32) [(.double x0), (.double x1), (.double x2)] (.double (0 : UInt64))) (hd33 : (cmpValue (FP.dcmp x1 x1) .g) = (0 : Int32)) (hd49 : (cmpValue (FP.dcmp x1 x1) .l) = (0 : Int32)) (hd2_1_64 : (cmpValue (FP.dcmp x1 x1) .l) = (0 : Int32)) (hd2_1_70 : (cmpValue (FP.dcmp x1 x1) .l) = (0 : Int32)) :
    MetFree l (⟨"java/util/Arrays", "binarySearch0", "([DIID)I"⟩ : MethodName) (head1 (Jvm.Cond.code (⟨"java/util/Arrays", "binarySearch0", "([DIID)I"⟩ : MethodName) jdk_65_method_71_code 14 (some .int) :: ws) ({ frames := 2, cells := 0, slots := 0, locals := 28 } : Room)) (fun a U => a = #[(.ref s0), (.int (0 : Int32)), (.int (3 : Int32)), (.double x1)] ∧ Z.Warmed39 U.vm ∧ U.heap = h0) (fun _ _ _ _ _ => True) (fun _ U o U' => ∃ v L, o = .returned v ∧ Q_e1_10 Z s0 kA x0 x1 x2 h0 n0 v U'.heap L ∧ FrameEnd U o U' L ({ frames := 2, cells := 0, slots := 0, locals := 28 } : Room).cells ({ frames := 2, cells := 0, slots := 0, locals := 28 } : Room).slots) := by
  refine MetFree.of_bodySF (plainFor_of_name pn_java_util_Arrays) hisR ?_
  intro p e s m args below meth c s₁ Bd hml0 hP hK
  obtain ⟨rfl, hZ, hh⟩ := hP
  have hx := Bd.exec
  have hby := Bd.bytes
  have hml : c.maxLocals = 14 := hml0
  have hown : s.vm.findClass "java/util/Arrays" = some m.cls := findClass_of_methodNamed Bd.named
  have hnm := (name_of_methodNamed Bd.named Bd.method).1
  have X0 : Stand p l e ({ frames := 2, cells := 0, slots := 0, locals := 28 } : Room) s m #[(.ref s0), (.int (0 : Int32)), (.int (3 : Int32)), (.double x1)] below meth c s₁ [] 0 0 := Stand.of_body Bd
  have e0 : s₁.heap = h0 := by rw [← hh, Bd.state]; rfl
  have N0 := Fr.nil n0
  have pre0 : ∀ t, Steps p.tables e below (s₁.setTop (mkF m 0 #[.val (.ref s0), .val (.int (0 : Int32)), .val (.int (3 : Int32)), .val (.double x1), .second, .unset, .unset, .unset, .unset, .unset, .unset, .unset, .unset, .unset] [])) t → Steps p.tables e below (s₁.setTop (entryFrame m #[(.ref s0), (.int (0 : Int32)), (.int (3 : Int32)), (.double x1)] 14)) t := fun t k => castTop (ef_10_Rl_0___Int32_l_3___Int32_D m s0 x1) k
  obtain ⟨cq1, Arq1, -, Sq1, -, Hq1, -⟩ := id V_s0
  obtain ⟨_, _, ⟨T2, L2, k2, n2⟩, -, X2, ⟨Lc2, hQ2, l2, y2, z2⟩, st2⟩ := Jvm.LawKit.callS X0 hx (y := (⟨"java/lang/Double", "doubleToLongBits", "(D)J"⟩ : MethodName)) hown (mvT hZ (hw _ (List.mem_of_getElem? (i := 68) rfl))) (mvT hZ (hw _ (List.mem_of_getElem? (i := 69) rfl))) (mvT hZ (hw _ (List.mem_of_getElem? (i := 70) rfl))) (mvT hZ (hw _ (List.mem_of_getElem? (i := 71) rfl))) (by decide) (backOf (W := 0) (rm14 l Z a0 hw [] x1 h0 n0 Z0 hd2_1_64) hZ (hw _ (List.mem_of_getElem? (i := 71) rfl)) (hw _ (List.mem_of_getElem? (i := 70) rfl)) (by decide) (by decide)) (g := (mkF m 64 #[.val (.ref s0), .val (.int (0 : Int32)), .val (.int (3 : Int32)), .val (.double x1), .second, .val (.int (0 : Int32)), .val (.int (2 : Int32)), .val (.int (1 : Int32)), .val (.double x1), .second, .unset, .unset, .unset, .unset] [(.double x1)])) rfl (by rw [hml]; rfl) (argsL := [(.double x1)]) (rest := []) (lenOf pd_2 rfl) rfl (by show 2 * 0 + _ ≤ _; exact Nat.le_of_eq rfl) (hb hby d10_64) (fun _ _ => ⟨rfl, e0, (by decide : 0 + 0 ≤ _), (by decide : 0 + 0 ≤ _)⟩)
  dsimp only [Pt.U, Pt.locs, Pt.cells, Pt.slots] at X2 l2 y2 z2 st2 hQ2
  subst l2 y2 z2
  obtain ⟨rfl, N2q, eh2⟩ := hQ2
  have N2 := Fr.app N0 N2q
  have e2 : T2.heap = h0 := eh2
  obtain ⟨_, _, ⟨T3, L3, k3, n3⟩, -, X3, ⟨Lc3, hQ3, l3, y3, z3⟩, st3⟩ := Jvm.LawKit.callS X2 hx (y := (⟨"java/lang/Double", "doubleToLongBits", "(D)J"⟩ : MethodName)) hown (mvT hZ (hw _ (List.mem_of_getElem? (i := 68) rfl))) (mvT hZ (hw _ (List.mem_of_getElem? (i := 69) rfl))) (mvT hZ (hw _ (List.mem_of_getElem? (i := 70) rfl))) (mvT hZ (hw _ (List.mem_of_getElem? (i := 71) rfl))) (by decide) (backOf (W := 0) (rm14 l Z a0 hw [] x1 h0 n0 Z0 hd2_1_70) hZ (hw _ (List.mem_of_getElem? (i := 71) rfl)) (hw _ (List.mem_of_getElem? (i := 70) rfl)) (by decide) (by decide)) (g := (mkF m 70 #[.val (.ref s0), .val (.int (0 : Int32)), .val (.int (3 : Int32)), .val (.double x1), .second, .val (.int (0 : Int32)), .val (.int (2 : Int32)), .val (.int (1 : Int32)), .val (.double x1), .second, .val (.long (x1.toInt64)), .second, .unset, .unset] [(.double x1)])) rfl (by rw [hml]; rfl) (argsL := [(.double x1)]) (rest := []) (lenOf pd_2 rfl) rfl (by show 2 * 0 + _ ≤ _; exact Nat.le_of_eq rfl) (hb hby d10_70) (fun _ _ => ⟨rfl, e2, (by decide : 0 + 0 ≤ _), (by decide : 0 + 0 ≤ _)⟩)
  dsimp only [Pt.U, Pt.locs, Pt.cells, Pt.slots] at X3 l3 y3 z3 st3 hQ3
  subst l3 y3 z3
  obtain ⟨rfl, N3q, eh3⟩ := hQ3
  have N3 := Fr.app N2 N3q
  have e3 : T3.heap = h0 := eh3
  obtain ⟨fs, hr, hrun, hended, hW, hsame⟩ := X3.leave (v := some (.int (1 : Int32))) (fun h => by rw [Bd.returns] at h; cases h)
  refine ⟨_, _, pre0 _ ?_, hrun, hended, _, _, rfl, ?_, ⟨_, rfl⟩, hW, hsame.mono (by decide) (by decide)⟩
  · show Steps p.tables e below (s₁.setTop (mkF m 0 #[.val (.ref s0), .val (.int (0 : Int32)), .val (.int (3 : Int32)), .val (.double x1), .second, .unset, .unset, .unset, .unset, .unset, .unset, .unset, .unset, .unset] [])) _
    refine XS.iloadN X0.here hx rfl (hb hby d10_0) rfl ?_
    show Steps p.tables e below (s₁.setTop (mkF m 1 #[.val (.ref s0), .val (.int (0 : Int32)), .val (.int (3 : Int32)), .val (.double x1), .second, .unset, .unset, .unset, .unset, .unset, .unset, .unset, .unset, .unset] [(.int (0 : Int32))])) _
    refine XS.istore X0.here hx rfl (hb hby d10_1) rfl (l' := #[.val (.ref s0), .val (.int (0 : Int32)), .val (.int (3 : Int32)), .val (.double x1), .second, .val (.int (0 : Int32)), .unset, .unset, .unset, .unset, .unset, .unset, .unset, .unset]) rfl ?_
    show Steps p.tables e below (s₁.setTop (mkF m 3 #[.val (.ref s0), .val (.int (0 : Int32)), .val (.int (3 : Int32)), .val (.double x1), .second, .val (.int (0 : Int32)), .unset, .unset, .unset, .unset, .unset, .unset, .unset, .unset] [])) _
    refine XS.iloadN X0.here hx rfl (hb hby d10_3) rfl ?_
    show Steps p.tables e below (s₁.setTop (mkF m 4 #[.val (.ref s0), .val (.int (0 : Int32)), .val (.int (3 : Int32)), .val (.double x1), .second, .val (.int (0 : Int32)), .unset, .unset, .unset, .unset, .unset, .unset, .unset, .unset] [(.int (3 : Int32))])) _
    refine XS.iconst X0.here hx rfl (hb hby d10_4) ?_
    show Steps p.tables e below (s₁.setTop (mkF m 5 #[.val (.ref s0), .val (.int (0 : Int32)), .val (.int (3 : Int32)), .val (.double x1), .second, .val (.int (0 : Int32)), .unset, .unset, .unset, .unset, .unset, .unset, .unset, .unset] [(.int (1 : Int32)), (.int (3 : Int32))])) _
    refine XS.isub X0.here hx rfl (hb hby d10_5) rfl ?_
    show Steps p.tables e below (s₁.setTop (mkF m 6 #[.val (.ref s0), .val (.int (0 : Int32)), .val (.int (3 : Int32)), .val (.double x1), .second, .val (.int (0 : Int32)), .unset, .unset, .unset, .unset, .unset, .unset, .unset, .unset] [(.int ((3 : Int32) - (1 : Int32)))])) _
    rw [show ((3 : Int32) - (1 : Int32)) = (2 : Int32) by decide]
    show Steps p.tables e below (s₁.setTop (mkF m 6 #[.val (.ref s0), .val (.int (0 : Int32)), .val (.int (3 : Int32)), .val (.double x1), .second, .val (.int (0 : Int32)), .unset, .unset, .unset, .unset, .unset, .unset, .unset, .unset] [(.int (2 : Int32))])) _
    refine XS.istore X0.here hx rfl (hb hby d10_6) rfl (l' := #[.val (.ref s0), .val (.int (0 : Int32)), .val (.int (3 : Int32)), .val (.double x1), .second, .val (.int (0 : Int32)), .val (.int (2 : Int32)), .unset, .unset, .unset, .unset, .unset, .unset, .unset]) rfl ?_
    show Steps p.tables e below (s₁.setTop (mkF m 8 #[.val (.ref s0), .val (.int (0 : Int32)), .val (.int (3 : Int32)), .val (.double x1), .second, .val (.int (0 : Int32)), .val (.int (2 : Int32)), .unset, .unset, .unset, .unset, .unset, .unset, .unset] [])) _
    refine XS.iload X0.here hx rfl (hb hby d10_8) rfl ?_
    show Steps p.tables e below (s₁.setTop (mkF m 10 #[.val (.ref s0), .val (.int (0 : Int32)), .val (.int (3 : Int32)), .val (.double x1), .second, .val (.int (0 : Int32)), .val (.int (2 : Int32)), .unset, .unset, .unset, .unset, .unset, .unset, .unset] [(.int (0 : Int32))])) _
    refine XS.iload X0.here hx rfl (hb hby d10_10) rfl ?_
    show Steps p.tables e below (s₁.setTop (mkF m 12 #[.val (.ref s0), .val (.int (0 : Int32)), .val (.int (3 : Int32)), .val (.double x1), .second, .val (.int (0 : Int32)), .val (.int (2 : Int32)), .unset, .unset, .unset, .unset, .unset, .unset, .unset] [(.int (2 : Int32)), (.int (0 : Int32))])) _
    refine XS.icmpNo X0.here hx rfl (hb hby d10_12) rfl (flt (by decide : ¬ ((2 : Int32) < (0 : Int32)))).2.2.1 ?_
    show Steps p.tables e below (s₁.setTop (mkF m 15 #[.val (.ref s0), .val (.int (0 : Int32)), .val (.int (3 : Int32)), .val (.double x1), .second, .val (.int (0 : Int32)), .val (.int (2 : Int32)), .unset, .unset, .unset, .unset, .unset, .unset, .unset] [])) _
    refine XS.iload X0.here hx rfl (hb hby d10_15) rfl ?_
    show Steps p.tables e below (s₁.setTop (mkF m 17 #[.val (.ref s0), .val (.int (0 : Int32)), .val (.int (3 : Int32)), .val (.double x1), .second, .val (.int (0 : Int32)), .val (.int (2 : Int32)), .unset, .unset, .unset, .unset, .unset, .unset, .unset] [(.int (0 : Int32))])) _
    refine XS.iload X0.here hx rfl (hb hby d10_17) rfl ?_
    show Steps p.tables e below (s₁.setTop (mkF m 19 #[.val (.ref s0), .val (.int (0 : Int32)), .val (.int (3 : Int32)), .val (.double x1), .second, .val (.int (0 : Int32)), .val (.int (2 : Int32)), .unset, .unset, .unset, .unset, .unset, .unset, .unset] [(.int (2 : Int32)), (.int (0 : Int32))])) _
    refine XS.iadd X0.here hx rfl (hb hby d10_19) rfl ?_
    show Steps p.tables e below (s₁.setTop (mkF m 20 #[.val (.ref s0), .val (.int (0 : Int32)), .val (.int (3 : Int32)), .val (.double x1), .second, .val (.int (0 : Int32)), .val (.int (2 : Int32)), .unset, .unset, .unset, .unset, .unset, .unset, .unset] [(.int ((0 : Int32) + (2 : Int32)))])) _
    rw [show ((0 : Int32) + (2 : Int32)) = (2 : Int32) by decide]
    show Steps p.tables e below (s₁.setTop (mkF m 20 #[.val (.ref s0), .val (.int (0 : Int32)), .val (.int (3 : Int32)), .val (.double x1), .second, .val (.int (0 : Int32)), .val (.int (2 : Int32)), .unset, .unset, .unset, .unset, .unset, .unset, .unset] [(.int (2 : Int32))])) _
    refine XS.iconst X0.here hx rfl (hb hby d10_20) ?_
    show Steps p.tables e below (s₁.setTop (mkF m 21 #[.val (.ref s0), .val (.int (0 : Int32)), .val (.int (3 : Int32)), .val (.double x1), .second, .val (.int (0 : Int32)), .val (.int (2 : Int32)), .unset, .unset, .unset, .unset, .unset, .unset, .unset] [(.int (1 : Int32)), (.int (2 : Int32))])) _
    refine XS.iushr X0.here hx rfl (hb hby d10_21) rfl ?_
    show Steps p.tables e below (s₁.setTop (mkF m 22 #[.val (.ref s0), .val (.int (0 : Int32)), .val (.int (3 : Int32)), .val (.double x1), .second, .val (.int (0 : Int32)), .val (.int (2 : Int32)), .unset, .unset, .unset, .unset, .unset, .unset, .unset] [(.int (((2 : Int32).toUInt32 >>> ((1 : Int32) &&& 31).toUInt32).toInt32))])) _
    rw [show (((2 : Int32).toUInt32 >>> ((1 : Int32) &&& 31).toUInt32).toInt32) = (1 : Int32) by decide]
    show Steps p.tables e below (s₁.setTop (mkF m 22 #[.val (.ref s0), .val (.int (0 : Int32)), .val (.int (3 : Int32)), .val (.double x1), .second, .val (.int (0 : Int32)), .val (.int (2 : Int32)), .unset, .unset, .unset, .unset, .unset, .unset, .unset] [(.int (1 : Int32))])) _
    refine XS.istore X0.here hx rfl (hb hby d10_22) rfl (l' := #[.val (.ref s0), .val (.int (0 : Int32)), .val (.int (3 : Int32)), .val (.double x1), .second, .val (.int (0 : Int32)), .val (.int (2 : Int32)), .val (.int (1 : Int32)), .unset, .unset, .unset, .unset, .unset, .unset]) rfl ?_
    show Steps p.tables e below (s₁.setTop (mkF m 24 #[.val (.ref s0), .val (.int (0 : Int32)), .val (.int (3 : Int32)), .val (.double x1), .second, .val (.int (0 : Int32)), .val (.int (2 : Int32)), .val (.int (1 : Int32)), .unset, .unset, .unset, .unset, .unset, .unset] [])) _
    refine XS.aloadN X0.here hx rfl (hb hby d10_24) rfl rfl ?_
    show Steps p.tables e below (s₁.setTop (mkF m 25 #[.val (.ref s0), .val (.int (0 : Int32)), .val (.int (3 : Int32)), .val (.double x1), .second, .val (.int (0 : Int32)), .val (.int (2 : Int32)), .val (.int (1 : Int32)), .unset, .unset, .unset, .unset, .unset, .unset] [(.ref s0)])) _
    refine XS.iload X0.here hx rfl (hb hby d10_25) rfl ?_
    show Steps p.tables e below (s₁.setTop (mkF m 27 #[.val (.ref s0), .val (.int (0 : Int32)), .val (.int (3 : Int32)), .val (.double x1), .second, .val (.int (0 : Int32)), .val (.int (2 : Int32)), .val (.int (1 : Int32)), .unset, .unset, .unset, .unset, .unset, .unset] [(.int (1 : Int32)), (.ref s0)])) _
    refine X0.daload hx (j := (1 : Int32)) (v := (.double x1)) (by rw [e0]; exact Arq1.1) (State.isArrayOf_alike hZ.alike Arq1.2.1) Arq1.2.2 (inb_of Sq1 ⟨by decide, by decide⟩) (Has.at Hq1 (inb_of Sq1 ⟨by decide, by decide⟩) rfl) (g := (mkF m 27 #[.val (.ref s0), .val (.int (0 : Int32)), .val (.int (3 : Int32)), .val (.double x1), .second, .val (.int (0 : Int32)), .val (.int (2 : Int32)), .val (.int (1 : Int32)), .unset, .unset, .unset, .unset, .unset, .unset] [(.int (1 : Int32)), (.ref s0)])) rfl rfl (hb hby d10_27) _ ?_
    show Steps p.tables e below (s₁.setTop (mkF m 28 #[.val (.ref s0), .val (.int (0 : Int32)), .val (.int (3 : Int32)), .val (.double x1), .second, .val (.int (0 : Int32)), .val (.int (2 : Int32)), .val (.int (1 : Int32)), .unset, .unset, .unset, .unset, .unset, .unset] [(.double x1)])) _
    refine XS.dstore X0.here hx rfl (hb hby d10_28) rfl (l' := #[.val (.ref s0), .val (.int (0 : Int32)), .val (.int (3 : Int32)), .val (.double x1), .second, .val (.int (0 : Int32)), .val (.int (2 : Int32)), .val (.int (1 : Int32)), .val (.double x1), .second, .unset, .unset, .unset, .unset]) rfl ?_
    show Steps p.tables e below (s₁.setTop (mkF m 30 #[.val (.ref s0), .val (.int (0 : Int32)), .val (.int (3 : Int32)), .val (.double x1), .second, .val (.int (0 : Int32)), .val (.int (2 : Int32)), .val (.int (1 : Int32)), .val (.double x1), .second, .unset, .unset, .unset, .unset] [])) _
    refine XS.dload X0.here hx rfl (hb hby d10_30) rfl ?_
    show Steps p.tables e below (s₁.setTop (mkF m 32 #[.val (.ref s0), .val (.int (0 : Int32)), .val (.int (3 : Int32)), .val (.double x1), .second, .val (.int (0 : Int32)), .val (.int (2 : Int32)), .val (.int (1 : Int32)), .val (.double x1), .second, .unset, .unset, .unset, .unset] [(.double x1)])) _
    refine XS.dloadN X0.here hx rfl (hb hby d10_32) rfl ?_
    show Steps p.tables e below (s₁.setTop (mkF m 33 #[.val (.ref s0), .val (.int (0 : Int32)), .val (.int (3 : Int32)), .val (.double x1), .second, .val (.int (0 : Int32)), .val (.int (2 : Int32)), .val (.int (1 : Int32)), .val (.double x1), .second, .unset, .unset, .unset, .unset] [(.double x1), (.double x1)])) _
    refine XS.dcmpS X0.here hx rfl (hb hby d10_33) rfl (v := (0 : Int32)) hd33 ?_
    show Steps p.tables e below (s₁.setTop (mkF m 34 #[.val (.ref s0), .val (.int (0 : Int32)), .val (.int (3 : Int32)), .val (.double x1), .second, .val (.int (0 : Int32)), .val (.int (2 : Int32)), .val (.int (1 : Int32)), .val (.double x1), .second, .unset, .unset, .unset, .unset] [(.int (0 : Int32))])) _
    refine XS.ifYes X0.here hx rfl (pc0 := 34) (pc' := 46) rfl (hb hby d10_34) rfl ((if0 _ _).trans (flt (by decide : ¬ ((0 : Int32) < (0 : Int32)))).2.1) (by decide) (by decide) ?_
    show Steps p.tables e below (s₁.setTop (mkF m 46 #[.val (.ref s0), .val (.int (0 : Int32)), .val (.int (3 : Int32)), .val (.double x1), .second, .val (.int (0 : Int32)), .val (.int (2 : Int32)), .val (.int (1 : Int32)), .val (.double x1), .second, .unset, .unset, .unset, .unset] [])) _
    refine XS.dload X0.here hx rfl (hb hby d10_46) rfl ?_
    show Steps p.tables e below (s₁.setTop (mkF m 48 #[.val (.ref s0), .val (.int (0 : Int32)), .val (.int (3 : Int32)), .val (.double x1), .second, .val (.int (0 : Int32)), .val (.int (2 : Int32)), .val (.int (1 : Int32)), .val (.double x1), .second, .unset, .unset, .unset, .unset] [(.double x1)])) _
    refine XS.dloadN X0.here hx rfl (hb hby d10_48) rfl ?_
    show Steps p.tables e below (s₁.setTop (mkF m 49 #[.val (.ref s0), .val (.int (0 : Int32)), .val (.int (3 : Int32)), .val (.double x1), .second, .val (.int (0 : Int32)), .val (.int (2 : Int32)), .val (.int (1 : Int32)), .val (.double x1), .second, .unset, .unset, .unset, .unset] [(.double x1), (.double x1)])) _
    refine XS.dcmpS X0.here hx rfl (hb hby d10_49) rfl (v := (0 : Int32)) hd49 ?_
    show Steps p.tables e below (s₁.setTop (mkF m 50 #[.val (.ref s0), .val (.int (0 : Int32)), .val (.int (3 : Int32)), .val (.double x1), .second, .val (.int (0 : Int32)), .val (.int (2 : Int32)), .val (.int (1 : Int32)), .val (.double x1), .second, .unset, .unset, .unset, .unset] [(.int (0 : Int32))])) _
    refine XS.ifYes X0.here hx rfl (pc0 := 50) (pc' := 62) rfl (hb hby d10_50) rfl ((if0 _ _).trans (flt (by decide : ¬ ((0 : Int32) < (0 : Int32)))).2.2.2) (by decide) (by decide) ?_
    show Steps p.tables e below (s₁.setTop (mkF m 62 #[.val (.ref s0), .val (.int (0 : Int32)), .val (.int (3 : Int32)), .val (.double x1), .second, .val (.int (0 : Int32)), .val (.int (2 : Int32)), .val (.int (1 : Int32)), .val (.double x1), .second, .unset, .unset, .unset, .unset] [])) _
    refine XS.dload X0.here hx rfl (hb hby d10_62) rfl ?_
    show Steps p.tables e below (s₁.setTop (mkF m 64 #[.val (.ref s0), .val (.int (0 : Int32)), .val (.int (3 : Int32)), .val (.double x1), .second, .val (.int (0 : Int32)), .val (.int (2 : Int32)), .val (.int (1 : Int32)), .val (.double x1), .second, .unset, .unset, .unset, .unset] [(.double x1)])) _
    refine st2 _ ?_
    show Steps p.tables e below (T2.setTop (mkF m 67 #[.val (.ref s0), .val (.int (0 : Int32)), .val (.int (3 : Int32)), .val (.double x1), .second, .val (.int (0 : Int32)), .val (.int (2 : Int32)), .val (.int (1 : Int32)), .val (.double x1), .second, .unset, .unset, .unset, .unset] [(.long (x1.toInt64))])) _
    refine XS.lstore X2.here hx rfl (hb hby d10_67) rfl (l' := #[.val (.ref s0), .val (.int (0 : Int32)), .val (.int (3 : Int32)), .val (.double x1), .second, .val (.int (0 : Int32)), .val (.int (2 : Int32)), .val (.int (1 : Int32)), .val (.double x1), .second, .val (.long (x1.toInt64)), .second, .unset, .unset]) rfl ?_
    show Steps p.tables e below (T2.setTop (mkF m 69 #[.val (.ref s0), .val (.int (0 : Int32)), .val (.int (3 : Int32)), .val (.double x1), .second, .val (.int (0 : Int32)), .val (.int (2 : Int32)), .val (.int (1 : Int32)), .val (.double x1), .second, .val (.long (x1.toInt64)), .second, .unset, .unset] [])) _
    refine XS.dloadN X2.here hx rfl (hb hby d10_69) rfl ?_
    show Steps p.tables e below (T2.setTop (mkF m 70 #[.val (.ref s0), .val (.int (0 : Int32)), .val (.int (3 : Int32)), .val (.double x1), .second, .val (.int (0 : Int32)), .val (.int (2 : Int32)), .val (.int (1 : Int32)), .val (.double x1), .second, .val (.long (x1.toInt64)), .second, .unset, .unset] [(.double x1)])) _
    refine st3 _ ?_
    show Steps p.tables e below (T3.setTop (mkF m 73 #[.val (.ref s0), .val (.int (0 : Int32)), .val (.int (3 : Int32)), .val (.double x1), .second, .val (.int (0 : Int32)), .val (.int (2 : Int32)), .val (.int (1 : Int32)), .val (.double x1), .second, .val (.long (x1.toInt64)), .second, .unset, .unset] [(.long (x1.toInt64))])) _
    refine XS.lstore X3.here hx rfl (hb hby d10_73) rfl (l' := #[.val (.ref s0), .val (.int (0 : Int32)), .val (.int (3 : Int32)), .val (.double x1), .second, .val (.int (0 : Int32)), .val (.int (2 : Int32)), .val (.int (1 : Int32)), .val (.double x1), .second, .val (.long (x1.toInt64)), .second, .val (.long (x1.toInt64)), .second]) rfl ?_
    show Steps p.tables e below (T3.setTop (mkF m 75 #[.val (.ref s0), .val (.int (0 : Int32)), .val (.int (3 : Int32)), .val (.double x1), .second, .val (.int (0 : Int32)), .val (.int (2 : Int32)), .val (.int (1 : Int32)), .val (.double x1), .second, .val (.long (x1.toInt64)), .second, .val (.long (x1.toInt64)), .second] [])) _
    refine XS.lload X3.here hx rfl (hb hby d10_75) rfl ?_
    show Steps p.tables e below (T3.setTop (mkF m 77 #[.val (.ref s0), .val (.int (0 : Int32)), .val (.int (3 : Int32)), .val (.double x1), .second, .val (.int (0 : Int32)), .val (.int (2 : Int32)), .val (.int (1 : Int32)), .val (.double x1), .second, .val (.long (x1.toInt64)), .second, .val (.long (x1.toInt64)), .second] [(.long (x1.toInt64))])) _
    refine XS.lload X3.here hx rfl (hb hby d10_77) rfl ?_
    show Steps p.tables e below (T3.setTop (mkF m 79 #[.val (.ref s0), .val (.int (0 : Int32)), .val (.int (3 : Int32)), .val (.double x1), .second, .val (.int (0 : Int32)), .val (.int (2 : Int32)), .val (.int (1 : Int32)), .val (.double x1), .second, .val (.long (x1.toInt64)), .second, .val (.long (x1.toInt64)), .second] [(.long (x1.toInt64)), (.long (x1.toInt64))])) _
    refine XS.lcmp X3.here hx rfl (hb hby d10_79) rfl ?_
    show Steps p.tables e below (T3.setTop (mkF m 80 #[.val (.ref s0), .val (.int (0 : Int32)), .val (.int (3 : Int32)), .val (.double x1), .second, .val (.int (0 : Int32)), .val (.int (2 : Int32)), .val (.int (1 : Int32)), .val (.double x1), .second, .val (.long (x1.toInt64)), .second, .val (.long (x1.toInt64)), .second] [(.int (lcmpW (x1.toInt64) (x1.toInt64)))])) _
    refine XS.ifNo X3.here hx rfl (hb hby d10_80) rfl ((if0 _ _).trans (teq ((lw_eq _ _).mpr rfl : (lcmpW (x1.toInt64) (x1.toInt64)) = (0 : Int32))).2) ?_
    show Steps p.tables e below (T3.setTop (mkF m 83 #[.val (.ref s0), .val (.int (0 : Int32)), .val (.int (3 : Int32)), .val (.double x1), .second, .val (.int (0 : Int32)), .val (.int (2 : Int32)), .val (.int (1 : Int32)), .val (.double x1), .second, .val (.long (x1.toInt64)), .second, .val (.long (x1.toInt64)), .second] [])) _
    refine XS.iload X3.here hx rfl (hb hby d10_83) rfl ?_
    show Steps p.tables e below (T3.setTop (mkF m 85 #[.val (.ref s0), .val (.int (0 : Int32)), .val (.int (3 : Int32)), .val (.double x1), .second, .val (.int (0 : Int32)), .val (.int (2 : Int32)), .val (.int (1 : Int32)), .val (.double x1), .second, .val (.long (x1.toInt64)), .second, .val (.long (x1.toInt64)), .second] [(.int (1 : Int32))])) _
    exact retOut X3 hx Bd.returns rfl (Or.inl ⟨rfl, Or.inl rfl, _, rfl⟩) (hb hby d10_85) hr
  · show Q_e1_10 Z s0 kA x0 x1 x2 h0 n0 _ T3.heap _
    rw [e3]
    exact ⟨rfl, N3, rfl⟩
def Q_e1_9 (Z : State) (s0 : Addr) (kA : ClassId) (x0 : UInt64) (x1 : UInt64) (x2 : UInt64) (h0 : Heap) (n0 : Nat) (v : Option Value) (h : Heap) (L : List Loc) : Prop := v = some (.int (1 : Int32)) ∧ Fr n0 L ∧ h = h0
set_option maxRecDepth 65536 in
set_option maxHeartbeats 40000000 in
theorem e1_9 (l : Launch) (Z : State) (a0 : Array Value) (hw : ∀ d ∈ tables_1, d.before a0 Z = true) (ws : List Jvm.Cond) (s0 : Addr) (kA : ClassId) (x0 : UInt64) (x1 : UInt64) (x2 : UInt64) (h0 : Heap) (n0 : Nat) (Z0 : n0 ≤ h0.size) (V_s0 : Arv Z h0 s0 kA .double (3 : Int32) [(.double x0), (.double x1), (.double x2)] (.double (0 : UInt64))) (hd33_5 : (cmpValue (FP.dcmp x1 x1) .g) = (0 : Int32)) (hd49_5 : (cmpValue (FP.dcmp x1 x1) .l) = (0 : Int32)) (hd2_1_64_5 : (cmpValue (FP.dcmp x1 x1) .l) = (0 : Int32)) (hd2_1_70_5 : (cmpValue (FP.dcmp x1 x1) .l) = (0 : Int32)) :
    MetFree l (⟨"java/util/Arrays", "binarySearch", "([DD)I"⟩ : MethodName) (head1 (Jvm.Cond.code (⟨"java/util/Arrays", "binarySearch", "([DD)I"⟩ : MethodName) jdk_65_method_69_code 3 (some .int) :: ws) ({ frames := 3, cells := 0, slots := 0, locals := 53 } : Room)) (fun a U => a = #[(.ref s0), (.double x1)] ∧ Z.Warmed39 U.vm ∧ U.heap = h0) (fun _ _ _ _ _ => True) (fun _ U o U' => ∃ v L, o = .returned v ∧ Q_e1_9 Z s0 kA x0 x1 x2 h0 n0 v U'.heap L ∧ FrameEnd U o U' L ({ frames := 3, cells := 0, slots := 0, locals := 53 } : Room).cells ({ frames := 3, cells := 0, slots := 0, locals := 53 } : Room).slots) := by
  refine MetFree.of_bodySF (plainFor_of_name pn_java_util_Arrays) hisR ?_
  intro p e s m args below meth c s₁ Bd hml0 hP hK
  obtain ⟨rfl, hZ, hh⟩ := hP
  have hx := Bd.exec
  have hby := Bd.bytes
  have hml : c.maxLocals = 3 := hml0
  have hown : s.vm.findClass "java/util/Arrays" = some m.cls := findClass_of_methodNamed Bd.named
  have hnm := (name_of_methodNamed Bd.named Bd.method).1
  have X0 : Stand p l e ({ frames := 3, cells := 0, slots := 0, locals := 53 } : Room) s m #[(.ref s0), (.double x1)] below meth c s₁ [] 0 0 := Stand.of_body Bd
  have e0 : s₁.heap = h0 := by rw [← hh, Bd.state]; rfl
  have N0 := Fr.nil n0
  have pre0 : ∀ t, Steps p.tables e below (s₁.setTop (mkF m 0 #[.val (.ref s0), .val (.double x1), .second] [])) t → Steps p.tables e below (s₁.setTop (entryFrame m #[(.ref s0), (.double x1)] 3)) t := fun t k => castTop (ef_9_RD m s0 x1) k
  obtain ⟨cq1, Arq1, -, Sq1, Nq1, -, -⟩ := id V_s0
  obtain ⟨_, _, ⟨T2, L2, k2, n2⟩, -, X2, ⟨Lc2, hQ2, l2, y2, z2⟩, st2⟩ := Jvm.LawKit.callS X0 hx (y := (⟨"java/util/Arrays", "binarySearch0", "([DIID)I"⟩ : MethodName)) hown (mvT hZ (hw _ (List.mem_of_getElem? (i := 54) rfl))) (mvT hZ (hw _ (List.mem_of_getElem? (i := 55) rfl))) (mvT hZ (hw _ (List.mem_of_getElem? (i := 52) rfl))) (mvT hZ (hw _ (List.mem_of_getElem? (i := 56) rfl))) (by decide) (backOf (W := 0) (e1_10 l Z a0 hw [] s0 kA x0 x1 x2 h0 n0 Z0 V_s0 hd33_5 hd49_5 hd2_1_64_5 hd2_1_70_5) hZ (hw _ (List.mem_of_getElem? (i := 56) rfl)) (hw _ (List.mem_of_getElem? (i := 52) rfl)) (by decide) (by decide)) (g := (mkF m 5 #[.val (.ref s0), .val (.double x1), .second] [(.double x1), (.int (3 : Int32)), (.int (0 : Int32)), (.ref s0)])) rfl (by rw [hml]; rfl) (argsL := [(.ref s0), (.int (0 : Int32)), (.int (3 : Int32)), (.double x1)]) (rest := []) (lenOf pd_1 rfl) rfl (by show 2 * 0 + _ ≤ _; exact Nat.le_of_eq rfl) (hb hby d9_5) (fun _ _ => ⟨rfl, e0, (by decide : 0 + 0 ≤ _), (by decide : 0 + 0 ≤ _)⟩)
  dsimp only [Pt.U, Pt.locs, Pt.cells, Pt.slots] at X2 l2 y2 z2 st2 hQ2
  subst l2 y2 z2
  obtain ⟨rfl, N2q, eh2⟩ := hQ2
  have N2 := Fr.app N0 N2q
  have e2 : T2.heap = h0 := eh2
  obtain ⟨fs, hr, hrun, hended, hW, hsame⟩ := X2.leave (v := some (.int (1 : Int32))) (fun h => by rw [Bd.returns] at h; cases h)
  refine ⟨_, _, pre0 _ ?_, hrun, hended, _, _, rfl, ?_, ⟨_, rfl⟩, hW, hsame.mono (by decide) (by decide)⟩
  · show Steps p.tables e below (s₁.setTop (mkF m 0 #[.val (.ref s0), .val (.double x1), .second] [])) _
    refine XS.aloadN X0.here hx rfl (hb hby d9_0) rfl rfl ?_
    show Steps p.tables e below (s₁.setTop (mkF m 1 #[.val (.ref s0), .val (.double x1), .second] [(.ref s0)])) _
    refine XS.iconst X0.here hx rfl (hb hby d9_1) ?_
    show Steps p.tables e below (s₁.setTop (mkF m 2 #[.val (.ref s0), .val (.double x1), .second] [(.int (0 : Int32)), (.ref s0)])) _
    refine XS.aloadN X0.here hx rfl (hb hby d9_2) rfl rfl ?_
    show Steps p.tables e below (s₁.setTop (mkF m 3 #[.val (.ref s0), .val (.double x1), .second] [(.ref s0), (.int (0 : Int32)), (.ref s0)])) _
    refine X0.arraylength hx (by rw [e0]; exact Arq1.1) (State.isArrayOf_alike hZ.alike Arq1.2.1) (g := (mkF m 3 #[.val (.ref s0), .val (.double x1), .second] [(.ref s0), (.int (0 : Int32)), (.ref s0)])) rfl rfl (hb hby d9_3) _ ?_
    rw [len_of Sq1 Nq1]
    show Steps p.tables e below (s₁.setTop (mkF m 4 #[.val (.ref s0), .val (.double x1), .second] [(.int (3 : Int32)), (.int (0 : Int32)), (.ref s0)])) _
    refine XS.dloadN X0.here hx rfl (hb hby d9_4) rfl ?_
    show Steps p.tables e below (s₁.setTop (mkF m 5 #[.val (.ref s0), .val (.double x1), .second] [(.double x1), (.int (3 : Int32)), (.int (0 : Int32)), (.ref s0)])) _
    refine st2 _ ?_
    show Steps p.tables e below (T2.setTop (mkF m 8 #[.val (.ref s0), .val (.double x1), .second] [(.int (1 : Int32))])) _
    exact retOut X2 hx Bd.returns rfl (Or.inl ⟨rfl, Or.inl rfl, _, rfl⟩) (hb hby d9_8) hr
  · show Q_e1_9 Z s0 kA x0 x1 x2 h0 n0 _ T2.heap _
    rw [e2]
    exact ⟨rfl, N2, rfl⟩
def Q_e2_10 (Z : State) (s0 : Addr) (kA : ClassId) (x0 : UInt64) (x1 : UInt64) (x2 : UInt64) (h0 : Heap) (n0 : Nat) (v : Option Value) (h : Heap) (L : List Loc) : Prop := v = some (.int (2 : Int32)) ∧ Fr n0 L ∧ h = h0
set_option maxRecDepth 65536 in
set_option maxHeartbeats 40000000 in
theorem e2_10 (l : Launch) (Z : State) (a0 : Array Value) (hw : ∀ d ∈ tables_1, d.before a0 Z = true) (ws : List Jvm.Cond) (s0 : Addr) (kA : ClassId) (x0 : UInt64) (x1 : UInt64) (x2 : UInt64) (h0 : Heap) (n0 : Nat) (Z0 : n0 ≤ h0.size) (V_s0 : Arv Z h0 s0 kA .double (3 : Int32) [(.double x0), (.double x1), (.double x2)] (.double (0 : UInt64))) (hd33 : (cmpValue (FP.dcmp x1 x2) .g) = (-1 : Int32)) (hd33_1 : (cmpValue (FP.dcmp x2 x2) .g) = (0 : Int32)) (hd49 : (cmpValue (FP.dcmp x2 x2) .l) = (0 : Int32)) (hd2_1_64 : (cmpValue (FP.dcmp x2 x2) .l) = (0 : Int32)) (hd2_1_70 : (cmpValue (FP.dcmp x2 x2) .l) = (0 : Int32)) :
    MetFree l (⟨"java/util/Arrays", "binarySearch0", "([DIID)I"⟩ : MethodName) (head1 (Jvm.Cond.code (⟨"java/util/Arrays", "binarySearch0", "([DIID)I"⟩ : MethodName) jdk_65_method_71_code 14 (some .int) :: ws) ({ frames := 2, cells := 0, slots := 0, locals := 28 } : Room)) (fun a U => a = #[(.ref s0), (.int (0 : Int32)), (.int (3 : Int32)), (.double x2)] ∧ Z.Warmed39 U.vm ∧ U.heap = h0) (fun _ _ _ _ _ => True) (fun _ U o U' => ∃ v L, o = .returned v ∧ Q_e2_10 Z s0 kA x0 x1 x2 h0 n0 v U'.heap L ∧ FrameEnd U o U' L ({ frames := 2, cells := 0, slots := 0, locals := 28 } : Room).cells ({ frames := 2, cells := 0, slots := 0, locals := 28 } : Room).slots) := by
  refine MetFree.of_bodySF (plainFor_of_name pn_java_util_Arrays) hisR ?_
  intro p e s m args below meth c s₁ Bd hml0 hP hK
  obtain ⟨rfl, hZ, hh⟩ := hP
  have hx := Bd.exec
  have hby := Bd.bytes
  have hml : c.maxLocals = 14 := hml0
  have hown : s.vm.findClass "java/util/Arrays" = some m.cls := findClass_of_methodNamed Bd.named
  have hnm := (name_of_methodNamed Bd.named Bd.method).1
  have X0 : Stand p l e ({ frames := 2, cells := 0, slots := 0, locals := 28 } : Room) s m #[(.ref s0), (.int (0 : Int32)), (.int (3 : Int32)), (.double x2)] below meth c s₁ [] 0 0 := Stand.of_body Bd
  have e0 : s₁.heap = h0 := by rw [← hh, Bd.state]; rfl
  have N0 := Fr.nil n0
  have pre0 : ∀ t, Steps p.tables e below (s₁.setTop (mkF m 0 #[.val (.ref s0), .val (.int (0 : Int32)), .val (.int (3 : Int32)), .val (.double x2), .second, .unset, .unset, .unset, .unset, .unset, .unset, .unset, .unset, .unset] [])) t → Steps p.tables e below (s₁.setTop (entryFrame m #[(.ref s0), (.int (0 : Int32)), (.int (3 : Int32)), (.double x2)] 14)) t := fun t k => castTop (ef_10_Rl_0___Int32_l_3___Int32_D m s0 x2) k
  obtain ⟨cq1, Arq1, -, Sq1, -, Hq1, -⟩ := id V_s0
  obtain ⟨cq2, Arq2, -, Sq2, -, Hq2, -⟩ := id V_s0
  obtain ⟨_, _, ⟨T3, L3, k3, n3⟩, -, X3, ⟨Lc3, hQ3, l3, y3, z3⟩, st3⟩ := Jvm.LawKit.callS X0 hx (y := (⟨"java/lang/Double", "doubleToLongBits", "(D)J"⟩ : MethodName)) hown (mvT hZ (hw _ (List.mem_of_getElem? (i := 68) rfl))) (mvT hZ (hw _ (List.mem_of_getElem? (i := 69) rfl))) (mvT hZ (hw _ (List.mem_of_getElem? (i := 70) rfl))) (mvT hZ (hw _ (List.mem_of_getElem? (i := 71) rfl))) (by decide) (backOf (W := 0) (rm14 l Z a0 hw [] x2 h0 n0 Z0 hd2_1_64) hZ (hw _ (List.mem_of_getElem? (i := 71) rfl)) (hw _ (List.mem_of_getElem? (i := 70) rfl)) (by decide) (by decide)) (g := (mkF m 64 #[.val (.ref s0), .val (.int (0 : Int32)), .val (.int (3 : Int32)), .val (.double x2), .second, .val (.int (2 : Int32)), .val (.int (2 : Int32)), .val (.int (2 : Int32)), .val (.double x2), .second, .unset, .unset, .unset, .unset] [(.double x2)])) rfl (by rw [hml]; rfl) (argsL := [(.double x2)]) (rest := []) (lenOf pd_2 rfl) rfl (by show 2 * 0 + _ ≤ _; exact Nat.le_of_eq rfl) (hb hby d10_64) (fun _ _ => ⟨rfl, e0, (by decide : 0 + 0 ≤ _), (by decide : 0 + 0 ≤ _)⟩)
  dsimp only [Pt.U, Pt.locs, Pt.cells, Pt.slots] at X3 l3 y3 z3 st3 hQ3
  subst l3 y3 z3
  obtain ⟨rfl, N3q, eh3⟩ := hQ3
  have N3 := Fr.app N0 N3q
  have e3 : T3.heap = h0 := eh3
  obtain ⟨_, _, ⟨T4, L4, k4, n4⟩, -, X4, ⟨Lc4, hQ4, l4, y4, z4⟩, st4⟩ := Jvm.LawKit.callS X3 hx (y := (⟨"java/lang/Double", "doubleToLongBits", "(D)J"⟩ : MethodName)) hown (mvT hZ (hw _ (List.mem_of_getElem? (i := 68) rfl))) (mvT hZ (hw _ (List.mem_of_getElem? (i := 69) rfl))) (mvT hZ (hw _ (List.mem_of_getElem? (i := 70) rfl))) (mvT hZ (hw _ (List.mem_of_getElem? (i := 71) rfl))) (by decide) (backOf (W := 0) (rm14 l Z a0 hw [] x2 h0 n0 Z0 hd2_1_70) hZ (hw _ (List.mem_of_getElem? (i := 71) rfl)) (hw _ (List.mem_of_getElem? (i := 70) rfl)) (by decide) (by decide)) (g := (mkF m 70 #[.val (.ref s0), .val (.int (0 : Int32)), .val (.int (3 : Int32)), .val (.double x2), .second, .val (.int (2 : Int32)), .val (.int (2 : Int32)), .val (.int (2 : Int32)), .val (.double x2), .second, .val (.long (x2.toInt64)), .second, .unset, .unset] [(.double x2)])) rfl (by rw [hml]; rfl) (argsL := [(.double x2)]) (rest := []) (lenOf pd_2 rfl) rfl (by show 2 * 0 + _ ≤ _; exact Nat.le_of_eq rfl) (hb hby d10_70) (fun _ _ => ⟨rfl, e3, (by decide : 0 + 0 ≤ _), (by decide : 0 + 0 ≤ _)⟩)
  dsimp only [Pt.U, Pt.locs, Pt.cells, Pt.slots] at X4 l4 y4 z4 st4 hQ4
  subst l4 y4 z4
  obtain ⟨rfl, N4q, eh4⟩ := hQ4
  have N4 := Fr.app N3 N4q
  have e4 : T4.heap = h0 := eh4
  obtain ⟨fs, hr, hrun, hended, hW, hsame⟩ := X4.leave (v := some (.int (2 : Int32))) (fun h => by rw [Bd.returns] at h; cases h)
  refine ⟨_, _, pre0 _ ?_, hrun, hended, _, _, rfl, ?_, ⟨_, rfl⟩, hW, hsame.mono (by decide) (by decide)⟩
  · show Steps p.tables e below (s₁.setTop (mkF m 0 #[.val (.ref s0), .val (.int (0 : Int32)), .val (.int (3 : Int32)), .val (.double x2), .second, .unset, .unset, .unset, .unset, .unset, .unset, .unset, .unset, .unset] [])) _
    refine XS.iloadN X0.here hx rfl (hb hby d10_0) rfl ?_
    show Steps p.tables e below (s₁.setTop (mkF m 1 #[.val (.ref s0), .val (.int (0 : Int32)), .val (.int (3 : Int32)), .val (.double x2), .second, .unset, .unset, .unset, .unset, .unset, .unset, .unset, .unset, .unset] [(.int (0 : Int32))])) _
    refine XS.istore X0.here hx rfl (hb hby d10_1) rfl (l' := #[.val (.ref s0), .val (.int (0 : Int32)), .val (.int (3 : Int32)), .val (.double x2), .second, .val (.int (0 : Int32)), .unset, .unset, .unset, .unset, .unset, .unset, .unset, .unset]) rfl ?_
    show Steps p.tables e below (s₁.setTop (mkF m 3 #[.val (.ref s0), .val (.int (0 : Int32)), .val (.int (3 : Int32)), .val (.double x2), .second, .val (.int (0 : Int32)), .unset, .unset, .unset, .unset, .unset, .unset, .unset, .unset] [])) _
    refine XS.iloadN X0.here hx rfl (hb hby d10_3) rfl ?_
    show Steps p.tables e below (s₁.setTop (mkF m 4 #[.val (.ref s0), .val (.int (0 : Int32)), .val (.int (3 : Int32)), .val (.double x2), .second, .val (.int (0 : Int32)), .unset, .unset, .unset, .unset, .unset, .unset, .unset, .unset] [(.int (3 : Int32))])) _
    refine XS.iconst X0.here hx rfl (hb hby d10_4) ?_
    show Steps p.tables e below (s₁.setTop (mkF m 5 #[.val (.ref s0), .val (.int (0 : Int32)), .val (.int (3 : Int32)), .val (.double x2), .second, .val (.int (0 : Int32)), .unset, .unset, .unset, .unset, .unset, .unset, .unset, .unset] [(.int (1 : Int32)), (.int (3 : Int32))])) _
    refine XS.isub X0.here hx rfl (hb hby d10_5) rfl ?_
    show Steps p.tables e below (s₁.setTop (mkF m 6 #[.val (.ref s0), .val (.int (0 : Int32)), .val (.int (3 : Int32)), .val (.double x2), .second, .val (.int (0 : Int32)), .unset, .unset, .unset, .unset, .unset, .unset, .unset, .unset] [(.int ((3 : Int32) - (1 : Int32)))])) _
    rw [show ((3 : Int32) - (1 : Int32)) = (2 : Int32) by decide]
    show Steps p.tables e below (s₁.setTop (mkF m 6 #[.val (.ref s0), .val (.int (0 : Int32)), .val (.int (3 : Int32)), .val (.double x2), .second, .val (.int (0 : Int32)), .unset, .unset, .unset, .unset, .unset, .unset, .unset, .unset] [(.int (2 : Int32))])) _
    refine XS.istore X0.here hx rfl (hb hby d10_6) rfl (l' := #[.val (.ref s0), .val (.int (0 : Int32)), .val (.int (3 : Int32)), .val (.double x2), .second, .val (.int (0 : Int32)), .val (.int (2 : Int32)), .unset, .unset, .unset, .unset, .unset, .unset, .unset]) rfl ?_
    show Steps p.tables e below (s₁.setTop (mkF m 8 #[.val (.ref s0), .val (.int (0 : Int32)), .val (.int (3 : Int32)), .val (.double x2), .second, .val (.int (0 : Int32)), .val (.int (2 : Int32)), .unset, .unset, .unset, .unset, .unset, .unset, .unset] [])) _
    refine XS.iload X0.here hx rfl (hb hby d10_8) rfl ?_
    show Steps p.tables e below (s₁.setTop (mkF m 10 #[.val (.ref s0), .val (.int (0 : Int32)), .val (.int (3 : Int32)), .val (.double x2), .second, .val (.int (0 : Int32)), .val (.int (2 : Int32)), .unset, .unset, .unset, .unset, .unset, .unset, .unset] [(.int (0 : Int32))])) _
    refine XS.iload X0.here hx rfl (hb hby d10_10) rfl ?_
    show Steps p.tables e below (s₁.setTop (mkF m 12 #[.val (.ref s0), .val (.int (0 : Int32)), .val (.int (3 : Int32)), .val (.double x2), .second, .val (.int (0 : Int32)), .val (.int (2 : Int32)), .unset, .unset, .unset, .unset, .unset, .unset, .unset] [(.int (2 : Int32)), (.int (0 : Int32))])) _
    refine XS.icmpNo X0.here hx rfl (hb hby d10_12) rfl (flt (by decide : ¬ ((2 : Int32) < (0 : Int32)))).2.2.1 ?_
    show Steps p.tables e below (s₁.setTop (mkF m 15 #[.val (.ref s0), .val (.int (0 : Int32)), .val (.int (3 : Int32)), .val (.double x2), .second, .val (.int (0 : Int32)), .val (.int (2 : Int32)), .unset, .unset, .unset, .unset, .unset, .unset, .unset] [])) _
    refine XS.iload X0.here hx rfl (hb hby d10_15) rfl ?_
    show Steps p.tables e below (s₁.setTop (mkF m 17 #[.val (.ref s0), .val (.int (0 : Int32)), .val (.int (3 : Int32)), .val (.double x2), .second, .val (.int (0 : Int32)), .val (.int (2 : Int32)), .unset, .unset, .unset, .unset, .unset, .unset, .unset] [(.int (0 : Int32))])) _
    refine XS.iload X0.here hx rfl (hb hby d10_17) rfl ?_
    show Steps p.tables e below (s₁.setTop (mkF m 19 #[.val (.ref s0), .val (.int (0 : Int32)), .val (.int (3 : Int32)), .val (.double x2), .second, .val (.int (0 : Int32)), .val (.int (2 : Int32)), .unset, .unset, .unset, .unset, .unset, .unset, .unset] [(.int (2 : Int32)), (.int (0 : Int32))])) _
    refine XS.iadd X0.here hx rfl (hb hby d10_19) rfl ?_
    show Steps p.tables e below (s₁.setTop (mkF m 20 #[.val (.ref s0), .val (.int (0 : Int32)), .val (.int (3 : Int32)), .val (.double x2), .second, .val (.int (0 : Int32)), .val (.int (2 : Int32)), .unset, .unset, .unset, .unset, .unset, .unset, .unset] [(.int ((0 : Int32) + (2 : Int32)))])) _
    rw [show ((0 : Int32) + (2 : Int32)) = (2 : Int32) by decide]
    show Steps p.tables e below (s₁.setTop (mkF m 20 #[.val (.ref s0), .val (.int (0 : Int32)), .val (.int (3 : Int32)), .val (.double x2), .second, .val (.int (0 : Int32)), .val (.int (2 : Int32)), .unset, .unset, .unset, .unset, .unset, .unset, .unset] [(.int (2 : Int32))])) _
    refine XS.iconst X0.here hx rfl (hb hby d10_20) ?_
    show Steps p.tables e below (s₁.setTop (mkF m 21 #[.val (.ref s0), .val (.int (0 : Int32)), .val (.int (3 : Int32)), .val (.double x2), .second, .val (.int (0 : Int32)), .val (.int (2 : Int32)), .unset, .unset, .unset, .unset, .unset, .unset, .unset] [(.int (1 : Int32)), (.int (2 : Int32))])) _
    refine XS.iushr X0.here hx rfl (hb hby d10_21) rfl ?_
    show Steps p.tables e below (s₁.setTop (mkF m 22 #[.val (.ref s0), .val (.int (0 : Int32)), .val (.int (3 : Int32)), .val (.double x2), .second, .val (.int (0 : Int32)), .val (.int (2 : Int32)), .unset, .unset, .unset, .unset, .unset, .unset, .unset] [(.int (((2 : Int32).toUInt32 >>> ((1 : Int32) &&& 31).toUInt32).toInt32))])) _
    rw [show (((2 : Int32).toUInt32 >>> ((1 : Int32) &&& 31).toUInt32).toInt32) = (1 : Int32) by decide]
    show Steps p.tables e below (s₁.setTop (mkF m 22 #[.val (.ref s0), .val (.int (0 : Int32)), .val (.int (3 : Int32)), .val (.double x2), .second, .val (.int (0 : Int32)), .val (.int (2 : Int32)), .unset, .unset, .unset, .unset, .unset, .unset, .unset] [(.int (1 : Int32))])) _
    refine XS.istore X0.here hx rfl (hb hby d10_22) rfl (l' := #[.val (.ref s0), .val (.int (0 : Int32)), .val (.int (3 : Int32)), .val (.double x2), .second, .val (.int (0 : Int32)), .val (.int (2 : Int32)), .val (.int (1 : Int32)), .unset, .unset, .unset, .unset, .unset, .unset]) rfl ?_
    show Steps p.tables e below (s₁.setTop (mkF m 24 #[.val (.ref s0), .val (.int (0 : Int32)), .val (.int (3 : Int32)), .val (.double x2), .second, .val (.int (0 : Int32)), .val (.int (2 : Int32)), .val (.int (1 : Int32)), .unset, .unset, .unset, .unset, .unset, .unset] [])) _
    refine XS.aloadN X0.here hx rfl (hb hby d10_24) rfl rfl ?_
    show Steps p.tables e below (s₁.setTop (mkF m 25 #[.val (.ref s0), .val (.int (0 : Int32)), .val (.int (3 : Int32)), .val (.double x2), .second, .val (.int (0 : Int32)), .val (.int (2 : Int32)), .val (.int (1 : Int32)), .unset, .unset, .unset, .unset, .unset, .unset] [(.ref s0)])) _
    refine XS.iload X0.here hx rfl (hb hby d10_25) rfl ?_
    show Steps p.tables e below (s₁.setTop (mkF m 27 #[.val (.ref s0), .val (.int (0 : Int32)), .val (.int (3 : Int32)), .val (.double x2), .second, .val (.int (0 : Int32)), .val (.int (2 : Int32)), .val (.int (1 : Int32)), .unset, .unset, .unset, .unset, .unset, .unset] [(.int (1 : Int32)), (.ref s0)])) _
    refine X0.daload hx (j := (1 : Int32)) (v := (.double x1)) (by rw [e0]; exact Arq1.1) (State.isArrayOf_alike hZ.alike Arq1.2.1) Arq1.2.2 (inb_of Sq1 ⟨by decide, by decide⟩) (Has.at Hq1 (inb_of Sq1 ⟨by decide, by decide⟩) rfl) (g := (mkF m 27 #[.val (.ref s0), .val (.int (0 : Int32)), .val (.int (3 : Int32)), .val (.double x2), .second, .val (.int (0 : Int32)), .val (.int (2 : Int32)), .val (.int (1 : Int32)), .unset, .unset, .unset, .unset, .unset, .unset] [(.int (1 : Int32)), (.ref s0)])) rfl rfl (hb hby d10_27) _ ?_
    show Steps p.tables e below (s₁.setTop (mkF m 28 #[.val (.ref s0), .val (.int (0 : Int32)), .val (.int (3 : Int32)), .val (.double x2), .second, .val (.int (0 : Int32)), .val (.int (2 : Int32)), .val (.int (1 : Int32)), .unset, .unset, .unset, .unset, .unset, .unset] [(.double x1)])) _
    refine XS.dstore X0.here hx rfl (hb hby d10_28) rfl (l' := #[.val (.ref s0), .val (.int (0 : Int32)), .val (.int (3 : Int32)), .val (.double x2), .second, .val (.int (0 : Int32)), .val (.int (2 : Int32)), .val (.int (1 : Int32)), .val (.double x1), .second, .unset, .unset, .unset, .unset]) rfl ?_
    show Steps p.tables e below (s₁.setTop (mkF m 30 #[.val (.ref s0), .val (.int (0 : Int32)), .val (.int (3 : Int32)), .val (.double x2), .second, .val (.int (0 : Int32)), .val (.int (2 : Int32)), .val (.int (1 : Int32)), .val (.double x1), .second, .unset, .unset, .unset, .unset] [])) _
    refine XS.dload X0.here hx rfl (hb hby d10_30) rfl ?_
    show Steps p.tables e below (s₁.setTop (mkF m 32 #[.val (.ref s0), .val (.int (0 : Int32)), .val (.int (3 : Int32)), .val (.double x2), .second, .val (.int (0 : Int32)), .val (.int (2 : Int32)), .val (.int (1 : Int32)), .val (.double x1), .second, .unset, .unset, .unset, .unset] [(.double x1)])) _
    refine XS.dloadN X0.here hx rfl (hb hby d10_32) rfl ?_
    show Steps p.tables e below (s₁.setTop (mkF m 33 #[.val (.ref s0), .val (.int (0 : Int32)), .val (.int (3 : Int32)), .val (.double x2), .second, .val (.int (0 : Int32)), .val (.int (2 : Int32)), .val (.int (1 : Int32)), .val (.double x1), .second, .unset, .unset, .unset, .unset] [(.double x2), (.double x1)])) _
    refine XS.dcmpS X0.here hx rfl (hb hby d10_33) rfl (v := (-1 : Int32)) hd33 ?_
    show Steps p.tables e below (s₁.setTop (mkF m 34 #[.val (.ref s0), .val (.int (0 : Int32)), .val (.int (3 : Int32)), .val (.double x2), .second, .val (.int (0 : Int32)), .val (.int (2 : Int32)), .val (.int (1 : Int32)), .val (.double x1), .second, .unset, .unset, .unset, .unset] [(.int (-1 : Int32))])) _
    refine XS.ifNo X0.here hx rfl (hb hby d10_34) rfl ((if0 _ _).trans (tlt (by decide : (-1 : Int32) < (0 : Int32))).2.1) ?_
    show Steps p.tables e below (s₁.setTop (mkF m 37 #[.val (.ref s0), .val (.int (0 : Int32)), .val (.int (3 : Int32)), .val (.double x2), .second, .val (.int (0 : Int32)), .val (.int (2 : Int32)), .val (.int (1 : Int32)), .val (.double x1), .second, .unset, .unset, .unset, .unset] [])) _
    refine XS.iload X0.here hx rfl (hb hby d10_37) rfl ?_
    show Steps p.tables e below (s₁.setTop (mkF m 39 #[.val (.ref s0), .val (.int (0 : Int32)), .val (.int (3 : Int32)), .val (.double x2), .second, .val (.int (0 : Int32)), .val (.int (2 : Int32)), .val (.int (1 : Int32)), .val (.double x1), .second, .unset, .unset, .unset, .unset] [(.int (1 : Int32))])) _
    refine XS.iconst X0.here hx rfl (hb hby d10_39) ?_
    show Steps p.tables e below (s₁.setTop (mkF m 40 #[.val (.ref s0), .val (.int (0 : Int32)), .val (.int (3 : Int32)), .val (.double x2), .second, .val (.int (0 : Int32)), .val (.int (2 : Int32)), .val (.int (1 : Int32)), .val (.double x1), .second, .unset, .unset, .unset, .unset] [(.int (1 : Int32)), (.int (1 : Int32))])) _
    refine XS.iadd X0.here hx rfl (hb hby d10_40) rfl ?_
    show Steps p.tables e below (s₁.setTop (mkF m 41 #[.val (.ref s0), .val (.int (0 : Int32)), .val (.int (3 : Int32)), .val (.double x2), .second, .val (.int (0 : Int32)), .val (.int (2 : Int32)), .val (.int (1 : Int32)), .val (.double x1), .second, .unset, .unset, .unset, .unset] [(.int ((1 : Int32) + (1 : Int32)))])) _
    rw [show ((1 : Int32) + (1 : Int32)) = (2 : Int32) by decide]
    show Steps p.tables e below (s₁.setTop (mkF m 41 #[.val (.ref s0), .val (.int (0 : Int32)), .val (.int (3 : Int32)), .val (.double x2), .second, .val (.int (0 : Int32)), .val (.int (2 : Int32)), .val (.int (1 : Int32)), .val (.double x1), .second, .unset, .unset, .unset, .unset] [(.int (2 : Int32))])) _
    refine XS.istore X0.here hx rfl (hb hby d10_41) rfl (l' := #[.val (.ref s0), .val (.int (0 : Int32)), .val (.int (3 : Int32)), .val (.double x2), .second, .val (.int (2 : Int32)), .val (.int (2 : Int32)), .val (.int (1 : Int32)), .val (.double x1), .second, .unset, .unset, .unset, .unset]) rfl ?_
    show Steps p.tables e below (s₁.setTop (mkF m 43 #[.val (.ref s0), .val (.int (0 : Int32)), .val (.int (3 : Int32)), .val (.double x2), .second, .val (.int (2 : Int32)), .val (.int (2 : Int32)), .val (.int (1 : Int32)), .val (.double x1), .second, .unset, .unset, .unset, .unset] [])) _
    refine XS.goto X0.here hx rfl (pc0 := 43) (pc' := 109) rfl (hb hby d10_43) (by decide) (by decide) ?_
    show Steps p.tables e below (s₁.setTop (mkF m 109 #[.val (.ref s0), .val (.int (0 : Int32)), .val (.int (3 : Int32)), .val (.double x2), .second, .val (.int (2 : Int32)), .val (.int (2 : Int32)), .val (.int (1 : Int32)), .val (.double x1), .second, .unset, .unset, .unset, .unset] [])) _
    refine XS.goto X0.here hx rfl (pc0 := 109) (pc' := 8) rfl (hb hby d10_109) (by decide) (by decide) ?_
    show Steps p.tables e below (s₁.setTop (mkF m 8 #[.val (.ref s0), .val (.int (0 : Int32)), .val (.int (3 : Int32)), .val (.double x2), .second, .val (.int (2 : Int32)), .val (.int (2 : Int32)), .val (.int (1 : Int32)), .val (.double x1), .second, .unset, .unset, .unset, .unset] [])) _
    refine XS.iload X0.here hx rfl (hb hby d10_8) rfl ?_
    show Steps p.tables e below (s₁.setTop (mkF m 10 #[.val (.ref s0), .val (.int (0 : Int32)), .val (.int (3 : Int32)), .val (.double x2), .second, .val (.int (2 : Int32)), .val (.int (2 : Int32)), .val (.int (1 : Int32)), .val (.double x1), .second, .unset, .unset, .unset, .unset] [(.int (2 : Int32))])) _
    refine XS.iload X0.here hx rfl (hb hby d10_10) rfl ?_
    show Steps p.tables e below (s₁.setTop (mkF m 12 #[.val (.ref s0), .val (.int (0 : Int32)), .val (.int (3 : Int32)), .val (.double x2), .second, .val (.int (2 : Int32)), .val (.int (2 : Int32)), .val (.int (1 : Int32)), .val (.double x1), .second, .unset, .unset, .unset, .unset] [(.int (2 : Int32)), (.int (2 : Int32))])) _
    refine XS.icmpNo X0.here hx rfl (hb hby d10_12) rfl (flt (by decide : ¬ ((2 : Int32) < (2 : Int32)))).2.2.1 ?_
    show Steps p.tables e below (s₁.setTop (mkF m 15 #[.val (.ref s0), .val (.int (0 : Int32)), .val (.int (3 : Int32)), .val (.double x2), .second, .val (.int (2 : Int32)), .val (.int (2 : Int32)), .val (.int (1 : Int32)), .val (.double x1), .second, .unset, .unset, .unset, .unset] [])) _
    refine XS.iload X0.here hx rfl (hb hby d10_15) rfl ?_
    show Steps p.tables e below (s₁.setTop (mkF m 17 #[.val (.ref s0), .val (.int (0 : Int32)), .val (.int (3 : Int32)), .val (.double x2), .second, .val (.int (2 : Int32)), .val (.int (2 : Int32)), .val (.int (1 : Int32)), .val (.double x1), .second, .unset, .unset, .unset, .unset] [(.int (2 : Int32))])) _
    refine XS.iload X0.here hx rfl (hb hby d10_17) rfl ?_
    show Steps p.tables e below (s₁.setTop (mkF m 19 #[.val (.ref s0), .val (.int (0 : Int32)), .val (.int (3 : Int32)), .val (.double x2), .second, .val (.int (2 : Int32)), .val (.int (2 : Int32)), .val (.int (1 : Int32)), .val (.double x1), .second, .unset, .unset, .unset, .unset] [(.int (2 : Int32)), (.int (2 : Int32))])) _
    refine XS.iadd X0.here hx rfl (hb hby d10_19) rfl ?_
    show Steps p.tables e below (s₁.setTop (mkF m 20 #[.val (.ref s0), .val (.int (0 : Int32)), .val (.int (3 : Int32)), .val (.double x2), .second, .val (.int (2 : Int32)), .val (.int (2 : Int32)), .val (.int (1 : Int32)), .val (.double x1), .second, .unset, .unset, .unset, .unset] [(.int ((2 : Int32) + (2 : Int32)))])) _
    rw [show ((2 : Int32) + (2 : Int32)) = (4 : Int32) by decide]
    show Steps p.tables e below (s₁.setTop (mkF m 20 #[.val (.ref s0), .val (.int (0 : Int32)), .val (.int (3 : Int32)), .val (.double x2), .second, .val (.int (2 : Int32)), .val (.int (2 : Int32)), .val (.int (1 : Int32)), .val (.double x1), .second, .unset, .unset, .unset, .unset] [(.int (4 : Int32))])) _
    refine XS.iconst X0.here hx rfl (hb hby d10_20) ?_
    show Steps p.tables e below (s₁.setTop (mkF m 21 #[.val (.ref s0), .val (.int (0 : Int32)), .val (.int (3 : Int32)), .val (.double x2), .second, .val (.int (2 : Int32)), .val (.int (2 : Int32)), .val (.int (1 : Int32)), .val (.double x1), .second, .unset, .unset, .unset, .unset] [(.int (1 : Int32)), (.int (4 : Int32))])) _
    refine XS.iushr X0.here hx rfl (hb hby d10_21) rfl ?_
    show Steps p.tables e below (s₁.setTop (mkF m 22 #[.val (.ref s0), .val (.int (0 : Int32)), .val (.int (3 : Int32)), .val (.double x2), .second, .val (.int (2 : Int32)), .val (.int (2 : Int32)), .val (.int (1 : Int32)), .val (.double x1), .second, .unset, .unset, .unset, .unset] [(.int (((4 : Int32).toUInt32 >>> ((1 : Int32) &&& 31).toUInt32).toInt32))])) _
    rw [show (((4 : Int32).toUInt32 >>> ((1 : Int32) &&& 31).toUInt32).toInt32) = (2 : Int32) by decide]
    show Steps p.tables e below (s₁.setTop (mkF m 22 #[.val (.ref s0), .val (.int (0 : Int32)), .val (.int (3 : Int32)), .val (.double x2), .second, .val (.int (2 : Int32)), .val (.int (2 : Int32)), .val (.int (1 : Int32)), .val (.double x1), .second, .unset, .unset, .unset, .unset] [(.int (2 : Int32))])) _
    refine XS.istore X0.here hx rfl (hb hby d10_22) rfl (l' := #[.val (.ref s0), .val (.int (0 : Int32)), .val (.int (3 : Int32)), .val (.double x2), .second, .val (.int (2 : Int32)), .val (.int (2 : Int32)), .val (.int (2 : Int32)), .val (.double x1), .second, .unset, .unset, .unset, .unset]) rfl ?_
    show Steps p.tables e below (s₁.setTop (mkF m 24 #[.val (.ref s0), .val (.int (0 : Int32)), .val (.int (3 : Int32)), .val (.double x2), .second, .val (.int (2 : Int32)), .val (.int (2 : Int32)), .val (.int (2 : Int32)), .val (.double x1), .second, .unset, .unset, .unset, .unset] [])) _
    refine XS.aloadN X0.here hx rfl (hb hby d10_24) rfl rfl ?_
    show Steps p.tables e below (s₁.setTop (mkF m 25 #[.val (.ref s0), .val (.int (0 : Int32)), .val (.int (3 : Int32)), .val (.double x2), .second, .val (.int (2 : Int32)), .val (.int (2 : Int32)), .val (.int (2 : Int32)), .val (.double x1), .second, .unset, .unset, .unset, .unset] [(.ref s0)])) _
    refine XS.iload X0.here hx rfl (hb hby d10_25) rfl ?_
    show Steps p.tables e below (s₁.setTop (mkF m 27 #[.val (.ref s0), .val (.int (0 : Int32)), .val (.int (3 : Int32)), .val (.double x2), .second, .val (.int (2 : Int32)), .val (.int (2 : Int32)), .val (.int (2 : Int32)), .val (.double x1), .second, .unset, .unset, .unset, .unset] [(.int (2 : Int32)), (.ref s0)])) _
    refine X0.daload hx (j := (2 : Int32)) (v := (.double x2)) (by rw [e0]; exact Arq2.1) (State.isArrayOf_alike hZ.alike Arq2.2.1) Arq2.2.2 (inb_of Sq2 ⟨by decide, by decide⟩) (Has.at Hq2 (inb_of Sq2 ⟨by decide, by decide⟩) rfl) (g := (mkF m 27 #[.val (.ref s0), .val (.int (0 : Int32)), .val (.int (3 : Int32)), .val (.double x2), .second, .val (.int (2 : Int32)), .val (.int (2 : Int32)), .val (.int (2 : Int32)), .val (.double x1), .second, .unset, .unset, .unset, .unset] [(.int (2 : Int32)), (.ref s0)])) rfl rfl (hb hby d10_27) _ ?_
    show Steps p.tables e below (s₁.setTop (mkF m 28 #[.val (.ref s0), .val (.int (0 : Int32)), .val (.int (3 : Int32)), .val (.double x2), .second, .val (.int (2 : Int32)), .val (.int (2 : Int32)), .val (.int (2 : Int32)), .val (.double x1), .second, .unset, .unset, .unset, .unset] [(.double x2)])) _
    refine XS.dstore X0.here hx rfl (hb hby d10_28) rfl (l' := #[.val (.ref s0), .val (.int (0 : Int32)), .val (.int (3 : Int32)), .val (.double x2), .second, .val (.int (2 : Int32)), .val (.int (2 : Int32)), .val (.int (2 : Int32)), .val (.double x2), .second, .unset, .unset, .unset, .unset]) rfl ?_
    show Steps p.tables e below (s₁.setTop (mkF m 30 #[.val (.ref s0), .val (.int (0 : Int32)), .val (.int (3 : Int32)), .val (.double x2), .second, .val (.int (2 : Int32)), .val (.int (2 : Int32)), .val (.int (2 : Int32)), .val (.double x2), .second, .unset, .unset, .unset, .unset] [])) _
    refine XS.dload X0.here hx rfl (hb hby d10_30) rfl ?_
    show Steps p.tables e below (s₁.setTop (mkF m 32 #[.val (.ref s0), .val (.int (0 : Int32)), .val (.int (3 : Int32)), .val (.double x2), .second, .val (.int (2 : Int32)), .val (.int (2 : Int32)), .val (.int (2 : Int32)), .val (.double x2), .second, .unset, .unset, .unset, .unset] [(.double x2)])) _
    refine XS.dloadN X0.here hx rfl (hb hby d10_32) rfl ?_
    show Steps p.tables e below (s₁.setTop (mkF m 33 #[.val (.ref s0), .val (.int (0 : Int32)), .val (.int (3 : Int32)), .val (.double x2), .second, .val (.int (2 : Int32)), .val (.int (2 : Int32)), .val (.int (2 : Int32)), .val (.double x2), .second, .unset, .unset, .unset, .unset] [(.double x2), (.double x2)])) _
    refine XS.dcmpS X0.here hx rfl (hb hby d10_33) rfl (v := (0 : Int32)) hd33_1 ?_
    show Steps p.tables e below (s₁.setTop (mkF m 34 #[.val (.ref s0), .val (.int (0 : Int32)), .val (.int (3 : Int32)), .val (.double x2), .second, .val (.int (2 : Int32)), .val (.int (2 : Int32)), .val (.int (2 : Int32)), .val (.double x2), .second, .unset, .unset, .unset, .unset] [(.int (0 : Int32))])) _
    refine XS.ifYes X0.here hx rfl (pc0 := 34) (pc' := 46) rfl (hb hby d10_34) rfl ((if0 _ _).trans (flt (by decide : ¬ ((0 : Int32) < (0 : Int32)))).2.1) (by decide) (by decide) ?_
    show Steps p.tables e below (s₁.setTop (mkF m 46 #[.val (.ref s0), .val (.int (0 : Int32)), .val (.int (3 : Int32)), .val (.double x2), .second, .val (.int (2 : Int32)), .val (.int (2 : Int32)), .val (.int (2 : Int32)), .val (.double x2), .second, .unset, .unset, .unset, .unset] [])) _
    refine XS.dload X0.here hx rfl (hb hby d10_46) rfl ?_
    show Steps p.tables e below (s₁.setTop (mkF m 48 #[.val (.ref s0), .val (.int (0 : Int32)), .val (.int (3 : Int32)), .val (.double x2), .second, .val (.int (2 : Int32)), .val (.int (2 : Int32)), .val (.int (2 : Int32)), .val (.double x2), .second, .unset, .unset, .unset, .unset] [(.double x2)])) _
    refine XS.dloadN X0.here hx rfl (hb hby d10_48) rfl ?_
    show Steps p.tables e below (s₁.setTop (mkF m 49 #[.val (.ref s0), .val (.int (0 : Int32)), .val (.int (3 : Int32)), .val (.double x2), .second, .val (.int (2 : Int32)), .val (.int (2 : Int32)), .val (.int (2 : Int32)), .val (.double x2), .second, .unset, .unset, .unset, .unset] [(.double x2), (.double x2)])) _
    refine XS.dcmpS X0.here hx rfl (hb hby d10_49) rfl (v := (0 : Int32)) hd49 ?_
    show Steps p.tables e below (s₁.setTop (mkF m 50 #[.val (.ref s0), .val (.int (0 : Int32)), .val (.int (3 : Int32)), .val (.double x2), .second, .val (.int (2 : Int32)), .val (.int (2 : Int32)), .val (.int (2 : Int32)), .val (.double x2), .second, .unset, .unset, .unset, .unset] [(.int (0 : Int32))])) _
    refine XS.ifYes X0.here hx rfl (pc0 := 50) (pc' := 62) rfl (hb hby d10_50) rfl ((if0 _ _).trans (flt (by decide : ¬ ((0 : Int32) < (0 : Int32)))).2.2.2) (by decide) (by decide) ?_
    show Steps p.tables e below (s₁.setTop (mkF m 62 #[.val (.ref s0), .val (.int (0 : Int32)), .val (.int (3 : Int32)), .val (.double x2), .second, .val (.int (2 : Int32)), .val (.int (2 : Int32)), .val (.int (2 : Int32)), .val (.double x2), .second, .unset, .unset, .unset, .unset] [])) _
    refine XS.dload X0.here hx rfl (hb hby d10_62) rfl ?_
    show Steps p.tables e below (s₁.setTop (mkF m 64 #[.val (.ref s0), .val (.int (0 : Int32)), .val (.int (3 : Int32)), .val (.double x2), .second, .val (.int (2 : Int32)), .val (.int (2 : Int32)), .val (.int (2 : Int32)), .val (.double x2), .second, .unset, .unset, .unset, .unset] [(.double x2)])) _
    refine st3 _ ?_
    show Steps p.tables e below (T3.setTop (mkF m 67 #[.val (.ref s0), .val (.int (0 : Int32)), .val (.int (3 : Int32)), .val (.double x2), .second, .val (.int (2 : Int32)), .val (.int (2 : Int32)), .val (.int (2 : Int32)), .val (.double x2), .second, .unset, .unset, .unset, .unset] [(.long (x2.toInt64))])) _
    refine XS.lstore X3.here hx rfl (hb hby d10_67) rfl (l' := #[.val (.ref s0), .val (.int (0 : Int32)), .val (.int (3 : Int32)), .val (.double x2), .second, .val (.int (2 : Int32)), .val (.int (2 : Int32)), .val (.int (2 : Int32)), .val (.double x2), .second, .val (.long (x2.toInt64)), .second, .unset, .unset]) rfl ?_
    show Steps p.tables e below (T3.setTop (mkF m 69 #[.val (.ref s0), .val (.int (0 : Int32)), .val (.int (3 : Int32)), .val (.double x2), .second, .val (.int (2 : Int32)), .val (.int (2 : Int32)), .val (.int (2 : Int32)), .val (.double x2), .second, .val (.long (x2.toInt64)), .second, .unset, .unset] [])) _
    refine XS.dloadN X3.here hx rfl (hb hby d10_69) rfl ?_
    show Steps p.tables e below (T3.setTop (mkF m 70 #[.val (.ref s0), .val (.int (0 : Int32)), .val (.int (3 : Int32)), .val (.double x2), .second, .val (.int (2 : Int32)), .val (.int (2 : Int32)), .val (.int (2 : Int32)), .val (.double x2), .second, .val (.long (x2.toInt64)), .second, .unset, .unset] [(.double x2)])) _
    refine st4 _ ?_
    show Steps p.tables e below (T4.setTop (mkF m 73 #[.val (.ref s0), .val (.int (0 : Int32)), .val (.int (3 : Int32)), .val (.double x2), .second, .val (.int (2 : Int32)), .val (.int (2 : Int32)), .val (.int (2 : Int32)), .val (.double x2), .second, .val (.long (x2.toInt64)), .second, .unset, .unset] [(.long (x2.toInt64))])) _
    refine XS.lstore X4.here hx rfl (hb hby d10_73) rfl (l' := #[.val (.ref s0), .val (.int (0 : Int32)), .val (.int (3 : Int32)), .val (.double x2), .second, .val (.int (2 : Int32)), .val (.int (2 : Int32)), .val (.int (2 : Int32)), .val (.double x2), .second, .val (.long (x2.toInt64)), .second, .val (.long (x2.toInt64)), .second]) rfl ?_
    show Steps p.tables e below (T4.setTop (mkF m 75 #[.val (.ref s0), .val (.int (0 : Int32)), .val (.int (3 : Int32)), .val (.double x2), .second, .val (.int (2 : Int32)), .val (.int (2 : Int32)), .val (.int (2 : Int32)), .val (.double x2), .second, .val (.long (x2.toInt64)), .second, .val (.long (x2.toInt64)), .second] [])) _
    refine XS.lload X4.here hx rfl (hb hby d10_75) rfl ?_
    show Steps p.tables e below (T4.setTop (mkF m 77 #[.val (.ref s0), .val (.int (0 : Int32)), .val (.int (3 : Int32)), .val (.double x2), .second, .val (.int (2 : Int32)), .val (.int (2 : Int32)), .val (.int (2 : Int32)), .val (.double x2), .second, .val (.long (x2.toInt64)), .second, .val (.long (x2.toInt64)), .second] [(.long (x2.toInt64))])) _
    refine XS.lload X4.here hx rfl (hb hby d10_77) rfl ?_
    show Steps p.tables e below (T4.setTop (mkF m 79 #[.val (.ref s0), .val (.int (0 : Int32)), .val (.int (3 : Int32)), .val (.double x2), .second, .val (.int (2 : Int32)), .val (.int (2 : Int32)), .val (.int (2 : Int32)), .val (.double x2), .second, .val (.long (x2.toInt64)), .second, .val (.long (x2.toInt64)), .second] [(.long (x2.toInt64)), (.long (x2.toInt64))])) _
    refine XS.lcmp X4.here hx rfl (hb hby d10_79) rfl ?_
    show Steps p.tables e below (T4.setTop (mkF m 80 #[.val (.ref s0), .val (.int (0 : Int32)), .val (.int (3 : Int32)), .val (.double x2), .second, .val (.int (2 : Int32)), .val (.int (2 : Int32)), .val (.int (2 : Int32)), .val (.double x2), .second, .val (.long (x2.toInt64)), .second, .val (.long (x2.toInt64)), .second] [(.int (lcmpW (x2.toInt64) (x2.toInt64)))])) _
    refine XS.ifNo X4.here hx rfl (hb hby d10_80) rfl ((if0 _ _).trans (teq ((lw_eq _ _).mpr rfl : (lcmpW (x2.toInt64) (x2.toInt64)) = (0 : Int32))).2) ?_
    show Steps p.tables e below (T4.setTop (mkF m 83 #[.val (.ref s0), .val (.int (0 : Int32)), .val (.int (3 : Int32)), .val (.double x2), .second, .val (.int (2 : Int32)), .val (.int (2 : Int32)), .val (.int (2 : Int32)), .val (.double x2), .second, .val (.long (x2.toInt64)), .second, .val (.long (x2.toInt64)), .second] [])) _
    refine XS.iload X4.here hx rfl (hb hby d10_83) rfl ?_
    show Steps p.tables e below (T4.setTop (mkF m 85 #[.val (.ref s0), .val (.int (0 : Int32)), .val (.int (3 : Int32)), .val (.double x2), .second, .val (.int (2 : Int32)), .val (.int (2 : Int32)), .val (.int (2 : Int32)), .val (.double x2), .second, .val (.long (x2.toInt64)), .second, .val (.long (x2.toInt64)), .second] [(.int (2 : Int32))])) _
    exact retOut X4 hx Bd.returns rfl (Or.inl ⟨rfl, Or.inl rfl, _, rfl⟩) (hb hby d10_85) hr
  · show Q_e2_10 Z s0 kA x0 x1 x2 h0 n0 _ T4.heap _
    rw [e4]
    exact ⟨rfl, N4, rfl⟩
def Q_e2_9 (Z : State) (s0 : Addr) (kA : ClassId) (x0 : UInt64) (x1 : UInt64) (x2 : UInt64) (h0 : Heap) (n0 : Nat) (v : Option Value) (h : Heap) (L : List Loc) : Prop := v = some (.int (2 : Int32)) ∧ Fr n0 L ∧ h = h0
set_option maxRecDepth 65536 in
set_option maxHeartbeats 40000000 in
theorem e2_9 (l : Launch) (Z : State) (a0 : Array Value) (hw : ∀ d ∈ tables_1, d.before a0 Z = true) (ws : List Jvm.Cond) (s0 : Addr) (kA : ClassId) (x0 : UInt64) (x1 : UInt64) (x2 : UInt64) (h0 : Heap) (n0 : Nat) (Z0 : n0 ≤ h0.size) (V_s0 : Arv Z h0 s0 kA .double (3 : Int32) [(.double x0), (.double x1), (.double x2)] (.double (0 : UInt64))) (hd33_5 : (cmpValue (FP.dcmp x1 x2) .g) = (-1 : Int32)) (hd33_1_5 : (cmpValue (FP.dcmp x2 x2) .g) = (0 : Int32)) (hd49_5 : (cmpValue (FP.dcmp x2 x2) .l) = (0 : Int32)) (hd2_1_64_5 : (cmpValue (FP.dcmp x2 x2) .l) = (0 : Int32)) (hd2_1_70_5 : (cmpValue (FP.dcmp x2 x2) .l) = (0 : Int32)) :
    MetFree l (⟨"java/util/Arrays", "binarySearch", "([DD)I"⟩ : MethodName) (head1 (Jvm.Cond.code (⟨"java/util/Arrays", "binarySearch", "([DD)I"⟩ : MethodName) jdk_65_method_69_code 3 (some .int) :: ws) ({ frames := 3, cells := 0, slots := 0, locals := 53 } : Room)) (fun a U => a = #[(.ref s0), (.double x2)] ∧ Z.Warmed39 U.vm ∧ U.heap = h0) (fun _ _ _ _ _ => True) (fun _ U o U' => ∃ v L, o = .returned v ∧ Q_e2_9 Z s0 kA x0 x1 x2 h0 n0 v U'.heap L ∧ FrameEnd U o U' L ({ frames := 3, cells := 0, slots := 0, locals := 53 } : Room).cells ({ frames := 3, cells := 0, slots := 0, locals := 53 } : Room).slots) := by
  refine MetFree.of_bodySF (plainFor_of_name pn_java_util_Arrays) hisR ?_
  intro p e s m args below meth c s₁ Bd hml0 hP hK
  obtain ⟨rfl, hZ, hh⟩ := hP
  have hx := Bd.exec
  have hby := Bd.bytes
  have hml : c.maxLocals = 3 := hml0
  have hown : s.vm.findClass "java/util/Arrays" = some m.cls := findClass_of_methodNamed Bd.named
  have hnm := (name_of_methodNamed Bd.named Bd.method).1
  have X0 : Stand p l e ({ frames := 3, cells := 0, slots := 0, locals := 53 } : Room) s m #[(.ref s0), (.double x2)] below meth c s₁ [] 0 0 := Stand.of_body Bd
  have e0 : s₁.heap = h0 := by rw [← hh, Bd.state]; rfl
  have N0 := Fr.nil n0
  have pre0 : ∀ t, Steps p.tables e below (s₁.setTop (mkF m 0 #[.val (.ref s0), .val (.double x2), .second] [])) t → Steps p.tables e below (s₁.setTop (entryFrame m #[(.ref s0), (.double x2)] 3)) t := fun t k => castTop (ef_9_RD m s0 x2) k
  obtain ⟨cq1, Arq1, -, Sq1, Nq1, -, -⟩ := id V_s0
  obtain ⟨_, _, ⟨T2, L2, k2, n2⟩, -, X2, ⟨Lc2, hQ2, l2, y2, z2⟩, st2⟩ := Jvm.LawKit.callS X0 hx (y := (⟨"java/util/Arrays", "binarySearch0", "([DIID)I"⟩ : MethodName)) hown (mvT hZ (hw _ (List.mem_of_getElem? (i := 54) rfl))) (mvT hZ (hw _ (List.mem_of_getElem? (i := 55) rfl))) (mvT hZ (hw _ (List.mem_of_getElem? (i := 52) rfl))) (mvT hZ (hw _ (List.mem_of_getElem? (i := 56) rfl))) (by decide) (backOf (W := 0) (e2_10 l Z a0 hw [] s0 kA x0 x1 x2 h0 n0 Z0 V_s0 hd33_5 hd33_1_5 hd49_5 hd2_1_64_5 hd2_1_70_5) hZ (hw _ (List.mem_of_getElem? (i := 56) rfl)) (hw _ (List.mem_of_getElem? (i := 52) rfl)) (by decide) (by decide)) (g := (mkF m 5 #[.val (.ref s0), .val (.double x2), .second] [(.double x2), (.int (3 : Int32)), (.int (0 : Int32)), (.ref s0)])) rfl (by rw [hml]; rfl) (argsL := [(.ref s0), (.int (0 : Int32)), (.int (3 : Int32)), (.double x2)]) (rest := []) (lenOf pd_1 rfl) rfl (by show 2 * 0 + _ ≤ _; exact Nat.le_of_eq rfl) (hb hby d9_5) (fun _ _ => ⟨rfl, e0, (by decide : 0 + 0 ≤ _), (by decide : 0 + 0 ≤ _)⟩)
  dsimp only [Pt.U, Pt.locs, Pt.cells, Pt.slots] at X2 l2 y2 z2 st2 hQ2
  subst l2 y2 z2
  obtain ⟨rfl, N2q, eh2⟩ := hQ2
  have N2 := Fr.app N0 N2q
  have e2 : T2.heap = h0 := eh2
  obtain ⟨fs, hr, hrun, hended, hW, hsame⟩ := X2.leave (v := some (.int (2 : Int32))) (fun h => by rw [Bd.returns] at h; cases h)
  refine ⟨_, _, pre0 _ ?_, hrun, hended, _, _, rfl, ?_, ⟨_, rfl⟩, hW, hsame.mono (by decide) (by decide)⟩
  · show Steps p.tables e below (s₁.setTop (mkF m 0 #[.val (.ref s0), .val (.double x2), .second] [])) _
    refine XS.aloadN X0.here hx rfl (hb hby d9_0) rfl rfl ?_
    show Steps p.tables e below (s₁.setTop (mkF m 1 #[.val (.ref s0), .val (.double x2), .second] [(.ref s0)])) _
    refine XS.iconst X0.here hx rfl (hb hby d9_1) ?_
    show Steps p.tables e below (s₁.setTop (mkF m 2 #[.val (.ref s0), .val (.double x2), .second] [(.int (0 : Int32)), (.ref s0)])) _
    refine XS.aloadN X0.here hx rfl (hb hby d9_2) rfl rfl ?_
    show Steps p.tables e below (s₁.setTop (mkF m 3 #[.val (.ref s0), .val (.double x2), .second] [(.ref s0), (.int (0 : Int32)), (.ref s0)])) _
    refine X0.arraylength hx (by rw [e0]; exact Arq1.1) (State.isArrayOf_alike hZ.alike Arq1.2.1) (g := (mkF m 3 #[.val (.ref s0), .val (.double x2), .second] [(.ref s0), (.int (0 : Int32)), (.ref s0)])) rfl rfl (hb hby d9_3) _ ?_
    rw [len_of Sq1 Nq1]
    show Steps p.tables e below (s₁.setTop (mkF m 4 #[.val (.ref s0), .val (.double x2), .second] [(.int (3 : Int32)), (.int (0 : Int32)), (.ref s0)])) _
    refine XS.dloadN X0.here hx rfl (hb hby d9_4) rfl ?_
    show Steps p.tables e below (s₁.setTop (mkF m 5 #[.val (.ref s0), .val (.double x2), .second] [(.double x2), (.int (3 : Int32)), (.int (0 : Int32)), (.ref s0)])) _
    refine st2 _ ?_
    show Steps p.tables e below (T2.setTop (mkF m 8 #[.val (.ref s0), .val (.double x2), .second] [(.int (2 : Int32))])) _
    exact retOut X2 hx Bd.returns rfl (Or.inl ⟨rfl, Or.inl rfl, _, rfl⟩) (hb hby d9_8) hr
  · show Q_e2_9 Z s0 kA x0 x1 x2 h0 n0 _ T2.heap _
    rw [e2]
    exact ⟨rfl, N2, rfl⟩
theorem d8_0 : decode prog_29_method_7_code 0 = .ok (.aload_n 0, 1) := by decide +kernel
theorem d8_1 : decode prog_29_method_7_code 1 = .ok (.getfield 7, 3) := by decide +kernel
theorem d8_4 : decode prog_29_method_7_code 4 = .ok (.dload_n 1, 1) := by decide +kernel
theorem d8_5 : decode prog_29_method_7_code 5 = .ok (.invokestatic 49, 3) := by decide +kernel
theorem pd_3 : parseMethodDescriptor "([DD)I" = some ⟨[(.array .double), .double], some .int⟩ := by decide +kernel
theorem d8_8 : decode prog_29_method_7_code 8 = .ok (.istore_n 3, 1) := by decide +kernel
theorem d8_9 : decode prog_29_method_7_code 9 = .ok (.iload_n 3, 1) := by decide +kernel
theorem d8_10 : decode prog_29_method_7_code 10 = .ok (.ifCond .lt 9, 3) := by decide +kernel
theorem d8_19 : decode prog_29_method_7_code 19 = .ok (.iload_n 3, 1) := by decide +kernel
theorem d8_20 : decode prog_29_method_7_code 20 = .ok (.iconst 1, 1) := by decide +kernel
theorem d8_21 : decode prog_29_method_7_code 21 = .ok (.iadd, 1) := by decide +kernel
theorem d8_22 : decode prog_29_method_7_code 22 = .ok (.ineg, 1) := by decide +kernel
theorem d8_23 : decode prog_29_method_7_code 23 = .ok (.ireturn, 1) := by decide +kernel
theorem pn_com_example_hedgeway_hedgeway_routing_Lambdas : plainName "com/example/hedgeway/hedgeway/routing/Lambdas" = true := by first | (simp [plainName, overriddenIn]; done) | decide +kernel
theorem ef_8_RD (m : MethodId) (x0 : Addr) (x1 : UInt64) : entryFrame m #[(.ref x0), (.double x1)] 4 = mkF m 0 #[.val (.ref x0), .val (.double x1), .second, .unset] [] := by first | (simp [entryFrame, mkF, argsToLocals, Value.category]; done) | rfl
def Q_fab (Z : State) (o0 : Addr) (s0 : Addr) (kA : ClassId) (eb : UInt64) (x0 : UInt64) (x1 : UInt64) (x2 : UInt64) (key : UInt64) (h0 : Heap) (n0 : Nat) (v : Option Value) (h : Heap) (L : List Loc) : Prop := v = some (.int (0 : Int32)) ∧ Fr n0 L ∧ h = h0
set_option maxRecDepth 65536 in
set_option maxHeartbeats 40000000 in
theorem fab (l : Launch) (Z : State) (a0 : Array Value) (hw : ∀ d ∈ tables_1, d.before a0 Z = true) (ws : List Jvm.Cond) (o0 : Addr) (s0 : Addr) (kA : ClassId) (eb : UInt64) (x0 : UInt64) (x1 : UInt64) (x2 : UInt64) (key : UInt64) (h0 : Heap) (n0 : Nat) (Z0 : n0 ≤ h0.size) (F_grid_o0 : Fld Z h0 o0 "com/example/hedgeway/hedgeway/routing/Lambdas" "grid" "[D" (.ref s0)) (F_errorBound_o0 : Fld Z h0 o0 "com/example/hedgeway/hedgeway/routing/Lambdas" "errorBound" "D" (.double eb)) (E_o0 : Exa Z h0 o0 "com/example/hedgeway/hedgeway/routing/Lambdas") (V_s0 : Arv Z h0 s0 kA .double (3 : Int32) [(.double x0), (.double x1), (.double x2)] (.double (0 : UInt64))) (hd33_5_5 : (cmpValue (FP.dcmp x1 key) .g) = (1 : Int32)) (hd49_5_5 : (cmpValue (FP.dcmp x1 key) .l) = (1 : Int32)) (hd33_1_5_5 : (cmpValue (FP.dcmp x0 key) .g) = (1 : Int32)) (hd49_1_5_5 : (cmpValue (FP.dcmp x0 key) .l) = (1 : Int32)) :
    MetFree l (⟨"com/example/hedgeway/hedgeway/routing/Lambdas", "firstAbove", "(D)I"⟩ : MethodName) (head1 (Jvm.Cond.code (⟨"com/example/hedgeway/hedgeway/routing/Lambdas", "firstAbove", "(D)I"⟩ : MethodName) prog_29_method_7_code 4 (some .int) :: ws) ({ frames := 2, cells := 0, slots := 0, locals := 39 } : Room)) (fun a U => a = #[(.ref o0), (.double key)] ∧ Z.Warmed39 U.vm ∧ U.heap = h0) (fun _ _ _ _ _ => True) (fun _ U o U' => ∃ v L, o = .returned v ∧ Q_fab Z o0 s0 kA eb x0 x1 x2 key h0 n0 v U'.heap L ∧ FrameEnd U o U' L ({ frames := 2, cells := 0, slots := 0, locals := 39 } : Room).cells ({ frames := 2, cells := 0, slots := 0, locals := 39 } : Room).slots) := by
  refine MetFree.of_bodySF (plainFor_of_name pn_com_example_hedgeway_hedgeway_routing_Lambdas) hisR ?_
  intro p e s m args below meth c s₁ Bd hml0 hP hK
  obtain ⟨rfl, hZ, hh⟩ := hP
  have hx := Bd.exec
  have hby := Bd.bytes
  have hml : c.maxLocals = 4 := hml0
  have hown : s.vm.findClass "com/example/hedgeway/hedgeway/routing/Lambdas" = some m.cls := findClass_of_methodNamed Bd.named
  have hnm := (name_of_methodNamed Bd.named Bd.method).1
  have X0 : Stand p l e ({ frames := 2, cells := 0, slots := 0, locals := 39 } : Room) s m #[(.ref o0), (.double key)] below meth c s₁ [] 0 0 := Stand.of_body Bd
  have e0 : s₁.heap = h0 := by rw [← hh, Bd.state]; rfl
  have N0 := Fr.nil n0
  have pre0 : ∀ t, Steps p.tables e below (s₁.setTop (mkF m 0 #[.val (.ref o0), .val (.double key), .second, .unset] [])) t → Steps p.tables e below (s₁.setTop (entryFrame m #[(.ref o0), (.double key)] 4)) t := fun t k => castTop (ef_8_RD m o0 key) k
  obtain ⟨T1, X1, e1, st1⟩ := getF X0 hx hZ hown (host := "") (Or.inl (hw _ (List.mem_of_getElem? (i := 22) rfl))) Via.refl e0 F_grid_o0 (g := (mkF m 1 #[.val (.ref o0), .val (.double key), .second, .unset] [(.ref o0)])) rfl rfl (hb hby d8_1)
  obtain ⟨_, _, ⟨T2, L2, k2, n2⟩, -, X2, ⟨Lc2, hQ2, l2, y2, z2⟩, st2⟩ := Jvm.LawKit.callS X1 hx (y := (⟨"java/util/Arrays", "binarySearch", "([DD)I"⟩ : MethodName)) hown (mvT hZ (hw _ (List.mem_of_getElem? (i := 50) rfl))) (mvT hZ (hw _ (List.mem_of_getElem? (i := 51) rfl))) (mvT hZ (hw _ (List.mem_of_getElem? (i := 52) rfl))) (mvT hZ (hw _ (List.mem_of_getElem? (i := 53) rfl))) (by decide) (backOf (W := 0) (lo_9 l Z a0 hw [] s0 kA x0 x1 x2 key h0 n0 Z0 V_s0 hd33_5_5 hd49_5_5 hd33_1_5_5 hd49_1_5_5) hZ (hw _ (List.mem_of_getElem? (i := 53) rfl)) (hw _ (List.mem_of_getElem? (i := 52) rfl)) (by decide) (by decide)) (g := (mkF m 5 #[.val (.ref o0), .val (.double key), .second, .unset] [(.double key), (.ref s0)])) rfl (by rw [hml]; rfl) (argsL := [(.ref s0), (.double key)]) (rest := []) (lenOf pd_3 rfl) rfl (by show 2 * 0 + _ ≤ _; exact Nat.le_of_eq rfl) (hb hby d8_5) (fun _ _ => ⟨rfl, e1, (by decide : 0 + 0 ≤ _), (by decide : 0 + 0 ≤ _)⟩)
  dsimp only [Pt.U, Pt.locs, Pt.cells, Pt.slots] at X2 l2 y2 z2 st2 hQ2
  subst l2 y2 z2
  obtain ⟨rfl, N2q, eh2⟩ := hQ2
  have N2 := Fr.app N0 N2q
  have e2 : T2.heap = h0 := eh2
  obtain ⟨fs, hr, hrun, hended, hW, hsame⟩ := X2.leave (v := some (.int (0 : Int32))) (fun h => by rw [Bd.returns] at h; cases h)
  refine ⟨_, _, pre0 _ ?_, hrun, hended, _, _, rfl, ?_, ⟨_, rfl⟩, hW, hsame.mono (by decide) (by decide)⟩
  · show Steps p.tables e below (s₁.setTop (mkF m 0 #[.val (.ref o0), .val (.double key), .second, .unset] [])) _
    refine XS.aloadN X0.here hx rfl (hb hby d8_0) rfl rfl ?_
    show Steps p.tables e below (s₁.setTop (mkF m 1 #[.val (.ref o0), .val (.double key), .second, .unset] [(.ref o0)])) _
    refine st1 _ ?_
    show Steps p.tables e below (T1.setTop (mkF m 4 #[.val (.ref o0), .val (.double key), .second, .unset] [(.ref s0)])) _
    refine XS.dloadN X1.here hx rfl (hb hby d8_4) rfl ?_
    show Steps p.tables e below (T1.setTop (mkF m 5 #[.val (.ref o0), .val (.double key), .second, .unset] [(.double key), (.ref s0)])) _
    refine st2 _ ?_
    show Steps p.tables e below (T2.setTop (mkF m 8 #[.val (.ref o0), .val (.double key), .second, .unset] [(.int (-1 : Int32))])) _
    refine XS.istoreN X2.here hx rfl (hb hby d8_8) rfl (l' := #[.val (.ref o0), .val (.double key), .second, .val (.int (-1 : Int32))]) rfl ?_
    show Steps p.tables e below (T2.setTop (mkF m 9 #[.val (.ref o0), .val (.double key), .second, .val (.int (-1 : Int32))] [])) _
    refine XS.iloadN X2.here hx rfl (hb hby d8_9) rfl ?_
    show Steps p.tables e below (T2.setTop (mkF m 10 #[.val (.ref o0), .val (.double key), .second, .val (.int (-1 : Int32))] [(.int (-1 : Int32))])) _
    refine XS.ifYes X2.here hx rfl (pc0 := 10) (pc' := 19) rfl (hb hby d8_10) rfl ((if0 _ _).trans (tlt (by decide : (-1 : Int32) < (0 : Int32))).1) (by decide) (by decide) ?_
    show Steps p.tables e below (T2.setTop (mkF m 19 #[.val (.ref o0), .val (.double key), .second, .val (.int (-1 : Int32))] [])) _
    refine XS.iloadN X2.here hx rfl (hb hby d8_19) rfl ?_
    show Steps p.tables e below (T2.setTop (mkF m 20 #[.val (.ref o0), .val (.double key), .second, .val (.int (-1 : Int32))] [(.int (-1 : Int32))])) _
    refine XS.iconst X2.here hx rfl (hb hby d8_20) ?_
    show Steps p.tables e below (T2.setTop (mkF m 21 #[.val (.ref o0), .val (.double key), .second, .val (.int (-1 : Int32))] [(.int (1 : Int32)), (.int (-1 : Int32))])) _
    refine XS.iadd X2.here hx rfl (hb hby d8_21) rfl ?_
    show Steps p.tables e below (T2.setTop (mkF m 22 #[.val (.ref o0), .val (.double key), .second, .val (.int (-1 : Int32))] [(.int ((-1 : Int32) + (1 : Int32)))])) _
    rw [show ((-1 : Int32) + (1 : Int32)) = (0 : Int32) by decide]
    show Steps p.tables e below (T2.setTop (mkF m 22 #[.val (.ref o0), .val (.double key), .second, .val (.int (-1 : Int32))] [(.int (0 : Int32))])) _
    refine XS.ineg X2.here hx rfl (hb hby d8_22) rfl ?_
    show Steps p.tables e below (T2.setTop (mkF m 23 #[.val (.ref o0), .val (.double key), .second, .val (.int (-1 : Int32))] [(.int (-(0 : Int32)))])) _
    rw [show (-(0 : Int32)) = (0 : Int32) by decide]
    show Steps p.tables e below (T2.setTop (mkF m 23 #[.val (.ref o0), .val (.double key), .second, .val (.int (-1 : Int32))] [(.int (0 : Int32))])) _
    exact retOut X2 hx Bd.returns rfl (Or.inl ⟨rfl, Or.inl rfl, _, rfl⟩) (hb hby d8_23) hr
  · show Q_fab Z o0 s0 kA eb x0 x1 x2 key h0 n0 _ T2.heap _
    rw [e2]
    exact ⟨rfl, N2, rfl⟩
theorem d11_0 : decode prog_29_method_8_code 0 = .ok (.aload_n 0, 1) := by decide +kernel
theorem d11_1 : decode prog_29_method_8_code 1 = .ok (.getfield 7, 3) := by decide +kernel
theorem d11_4 : decode prog_29_method_8_code 4 = .ok (.dload_n 1, 1) := by decide +kernel
theorem d11_5 : decode prog_29_method_8_code 5 = .ok (.invokestatic 49, 3) := by decide +kernel
theorem d11_8 : decode prog_29_method_8_code 8 = .ok (.istore_n 3, 1) := by decide +kernel
theorem d11_9 : decode prog_29_method_8_code 9 = .ok (.iload_n 3, 1) := by decide +kernel
theorem d11_10 : decode prog_29_method_8_code 10 = .ok (.ifCond .lt 7, 3) := by decide +kernel
theorem d11_17 : decode prog_29_method_8_code 17 = .ok (.iload_n 3, 1) := by decide +kernel
theorem d11_18 : decode prog_29_method_8_code 18 = .ok (.iconst 1, 1) := by decide +kernel
theorem d11_19 : decode prog_29_method_8_code 19 = .ok (.iadd, 1) := by decide +kernel
theorem d11_20 : decode prog_29_method_8_code 20 = .ok (.ineg, 1) := by decide +kernel
theorem d11_21 : decode prog_29_method_8_code 21 = .ok (.ireturn, 1) := by decide +kernel
theorem ef_11_RD (m : MethodId) (x0 : Addr) (x1 : UInt64) : entryFrame m #[(.ref x0), (.double x1)] 4 = mkF m 0 #[.val (.ref x0), .val (.double x1), .second, .unset] [] := by first | (simp [entryFrame, mkF, argsToLocals, Value.category]; done) | rfl
def Q_falhi (Z : State) (o0 : Addr) (s0 : Addr) (kA : ClassId) (eb : UInt64) (x0 : UInt64) (x1 : UInt64) (x2 : UInt64) (key : UInt64) (h0 : Heap) (n0 : Nat) (v : Option Value) (h : Heap) (L : List Loc) : Prop := v = some (.int (3 : Int32)) ∧ Fr n0 L ∧ h = h0
set_option maxRecDepth 65536 in
set_option maxHeartbeats 40000000 in
theorem falhi (l : Launch) (Z : State) (a0 : Array Value) (hw : ∀ d ∈ tables_1, d.before a0 Z = true) (ws : List Jvm.Cond) (o0 : Addr) (s0 : Addr) (kA : ClassId) (eb : UInt64) (x0 : UInt64) (x1 : UInt64) (x2 : UInt64) (key : UInt64) (h0 : Heap) (n0 : Nat) (Z0 : n0 ≤ h0.size) (F_grid_o0 : Fld Z h0 o0 "com/example/hedgeway/hedgeway/routing/Lambdas" "grid" "[D" (.ref s0)) (F_errorBound_o0 : Fld Z h0 o0 "com/example/hedgeway/hedgeway/routing/Lambdas" "errorBound" "D" (.double eb)) (E_o0 : Exa Z h0 o0 "com/example/hedgeway/hedgeway/routing/Lambdas") (V_s0 : Arv Z h0 s0 kA .double (3 : Int32) [(.double x0), (.double x1), (.double x2)] (.double (0 : UInt64))) (hd33_5_5 : (cmpValue (FP.dcmp x1 key) .g) = (-1 : Int32)) (hd33_1_5_5 : (cmpValue (FP.dcmp x2 key) .g) = (-1 : Int32)) :
    MetFree l (⟨"com/example/hedgeway/hedgeway/routing/Lambdas", "firstAtLeast", "(D)I"⟩ : MethodName) (head1 (Jvm.Cond.code (⟨"com/example/hedgeway/hedgeway/routing/Lambdas", "firstAtLeast", "(D)I"⟩ : MethodName) prog_29_method_8_code 4 (some .int) :: ws) ({ frames := 2, cells := 0, slots := 0, locals := 39 } : Room)) (fun a U => a = #[(.ref o0), (.double key)] ∧ Z.Warmed39 U.vm ∧ U.heap = h0) (fun _ _ _ _ _ => True) (fun _ U o U' => ∃ v L, o = .returned v ∧ Q_falhi Z o0 s0 kA eb x0 x1 x2 key h0 n0 v U'.heap L ∧ FrameEnd U o U' L ({ frames := 2, cells := 0, slots := 0, locals := 39 } : Room).cells ({ frames := 2, cells := 0, slots := 0, locals := 39 } : Room).slots) := by
  refine MetFree.of_bodySF (plainFor_of_name pn_com_example_hedgeway_hedgeway_routing_Lambdas) hisR ?_
  intro p e s m args below meth c s₁ Bd hml0 hP hK
  obtain ⟨rfl, hZ, hh⟩ := hP
  have hx := Bd.exec
  have hby := Bd.bytes
  have hml : c.maxLocals = 4 := hml0
  have hown : s.vm.findClass "com/example/hedgeway/hedgeway/routing/Lambdas" = some m.cls := findClass_of_methodNamed Bd.named
  have hnm := (name_of_methodNamed Bd.named Bd.method).1
  have X0 : Stand p l e ({ frames := 2, cells := 0, slots := 0, locals := 39 } : Room) s m #[(.ref o0), (.double key)] below meth c s₁ [] 0 0 := Stand.of_body Bd
  have e0 : s₁.heap = h0 := by rw [← hh, Bd.state]; rfl
  have N0 := Fr.nil n0
  have pre0 : ∀ t, Steps p.tables e below (s₁.setTop (mkF m 0 #[.val (.ref o0), .val (.double key), .second, .unset] [])) t → Steps p.tables e below (s₁.setTop (entryFrame m #[(.ref o0), (.double key)] 4)) t := fun t k => castTop (ef_11_RD m o0 key) k
  obtain ⟨T1, X1, e1, st1⟩ := getF X0 hx hZ hown (host := "") (Or.inl (hw _ (List.mem_of_getElem? (i := 22) rfl))) Via.refl e0 F_grid_o0 (g := (mkF m 1 #[.val (.ref o0), .val (.double key), .second, .unset] [(.ref o0)])) rfl rfl (hb hby d11_1)
  obtain ⟨_, _, ⟨T2, L2, k2, n2⟩, -, X2, ⟨Lc2, hQ2, l2, y2, z2⟩, st2⟩ := Jvm.LawKit.callS X1 hx (y := (⟨"java/util/Arrays", "binarySearch", "([DD)I"⟩ : MethodName)) hown (mvT hZ (hw _ (List.mem_of_getElem? (i := 50) rfl))) (mvT hZ (hw _ (List.mem_of_getElem? (i := 51) rfl))) (mvT hZ (hw _ (List.mem_of_getElem? (i := 52) rfl))) (mvT hZ (hw _ (List.mem_of_getElem? (i := 53) rfl))) (by decide) (backOf (W := 0) (hi_9 l Z a0 hw [] s0 kA x0 x1 x2 key h0 n0 Z0 V_s0 hd33_5_5 hd33_1_5_5) hZ (hw _ (List.mem_of_getElem? (i := 53) rfl)) (hw _ (List.mem_of_getElem? (i := 52) rfl)) (by decide) (by decide)) (g := (mkF m 5 #[.val (.ref o0), .val (.double key), .second, .unset] [(.double key), (.ref s0)])) rfl (by rw [hml]; rfl) (argsL := [(.ref s0), (.double key)]) (rest := []) (lenOf pd_3 rfl) rfl (by show 2 * 0 + _ ≤ _; exact Nat.le_of_eq rfl) (hb hby d11_5) (fun _ _ => ⟨rfl, e1, (by decide : 0 + 0 ≤ _), (by decide : 0 + 0 ≤ _)⟩)
  dsimp only [Pt.U, Pt.locs, Pt.cells, Pt.slots] at X2 l2 y2 z2 st2 hQ2
  subst l2 y2 z2
  obtain ⟨rfl, N2q, eh2⟩ := hQ2
  have N2 := Fr.app N0 N2q
  have e2 : T2.heap = h0 := eh2
  obtain ⟨fs, hr, hrun, hended, hW, hsame⟩ := X2.leave (v := some (.int (3 : Int32))) (fun h => by rw [Bd.returns] at h; cases h)
  refine ⟨_, _, pre0 _ ?_, hrun, hended, _, _, rfl, ?_, ⟨_, rfl⟩, hW, hsame.mono (by decide) (by decide)⟩
  · show Steps p.tables e below (s₁.setTop (mkF m 0 #[.val (.ref o0), .val (.double key), .second, .unset] [])) _
    refine XS.aloadN X0.here hx rfl (hb hby d11_0) rfl rfl ?_
    show Steps p.tables e below (s₁.setTop (mkF m 1 #[.val (.ref o0), .val (.double key), .second, .unset] [(.ref o0)])) _
    refine st1 _ ?_
    show Steps p.tables e below (T1.setTop (mkF m 4 #[.val (.ref o0), .val (.double key), .second, .unset] [(.ref s0)])) _
    refine XS.dloadN X1.here hx rfl (hb hby d11_4) rfl ?_
    show Steps p.tables e below (T1.setTop (mkF m 5 #[.val (.ref o0), .val (.double key), .second, .unset] [(.double key), (.ref s0)])) _
    refine st2 _ ?_
    show Steps p.tables e below (T2.setTop (mkF m 8 #[.val (.ref o0), .val (.double key), .second, .unset] [(.int (-4 : Int32))])) _
    refine XS.istoreN X2.here hx rfl (hb hby d11_8) rfl (l' := #[.val (.ref o0), .val (.double key), .second, .val (.int (-4 : Int32))]) rfl ?_
    show Steps p.tables e below (T2.setTop (mkF m 9 #[.val (.ref o0), .val (.double key), .second, .val (.int (-4 : Int32))] [])) _
    refine XS.iloadN X2.here hx rfl (hb hby d11_9) rfl ?_
    show Steps p.tables e below (T2.setTop (mkF m 10 #[.val (.ref o0), .val (.double key), .second, .val (.int (-4 : Int32))] [(.int (-4 : Int32))])) _
    refine XS.ifYes X2.here hx rfl (pc0 := 10) (pc' := 17) rfl (hb hby d11_10) rfl ((if0 _ _).trans (tlt (by decide : (-4 : Int32) < (0 : Int32))).1) (by decide) (by decide) ?_
    show Steps p.tables e below (T2.setTop (mkF m 17 #[.val (.ref o0), .val (.double key), .second, .val (.int (-4 : Int32))] [])) _
    refine XS.iloadN X2.here hx rfl (hb hby d11_17) rfl ?_
    show Steps p.tables e below (T2.setTop (mkF m 18 #[.val (.ref o0), .val (.double key), .second, .val (.int (-4 : Int32))] [(.int (-4 : Int32))])) _
    refine XS.iconst X2.here hx rfl (hb hby d11_18) ?_
    show Steps p.tables e below (T2.setTop (mkF m 19 #[.val (.ref o0), .val (.double key), .second, .val (.int (-4 : Int32))] [(.int (1 : Int32)), (.int (-4 : Int32))])) _
    refine XS.iadd X2.here hx rfl (hb hby d11_19) rfl ?_
    show Steps p.tables e below (T2.setTop (mkF m 20 #[.val (.ref o0), .val (.double key), .second, .val (.int (-4 : Int32))] [(.int ((-4 : Int32) + (1 : Int32)))])) _
    rw [show ((-4 : Int32) + (1 : Int32)) = (-3 : Int32) by decide]
    show Steps p.tables e below (T2.setTop (mkF m 20 #[.val (.ref o0), .val (.double key), .second, .val (.int (-4 : Int32))] [(.int (-3 : Int32))])) _
    refine XS.ineg X2.here hx rfl (hb hby d11_20) rfl ?_
    show Steps p.tables e below (T2.setTop (mkF m 21 #[.val (.ref o0), .val (.double key), .second, .val (.int (-4 : Int32))] [(.int (-(-3 : Int32)))])) _
    rw [show (-(-3 : Int32)) = (3 : Int32) by decide]
    show Steps p.tables e below (T2.setTop (mkF m 21 #[.val (.ref o0), .val (.double key), .second, .val (.int (-4 : Int32))] [(.int (3 : Int32))])) _
    exact retOut X2 hx Bd.returns rfl (Or.inl ⟨rfl, Or.inl rfl, _, rfl⟩) (hb hby d11_21) hr
  · show Q_falhi Z o0 s0 kA eb x0 x1 x2 key h0 n0 _ T2.heap _
    rw [e2]
    exact ⟨rfl, N2, rfl⟩
theorem d11_13 : decode prog_29_method_8_code 13 = .ok (.iload_n 3, 1) := by decide +kernel
theorem d11_14 : decode prog_29_method_8_code 14 = .ok (.goto 7, 3) := by decide +kernel
def Q_fal0 (Z : State) (o0 : Addr) (s0 : Addr) (kA : ClassId) (eb : UInt64) (x0 : UInt64) (x1 : UInt64) (x2 : UInt64) (h0 : Heap) (n0 : Nat) (v : Option Value) (h : Heap) (L : List Loc) : Prop := v = some (.int (0 : Int32)) ∧ Fr n0 L ∧ h = h0
set_option maxRecDepth 65536 in
set_option maxHeartbeats 40000000 in
theorem fal0 (l : Launch) (Z : State) (a0 : Array Value) (hw : ∀ d ∈ tables_1, d.before a0 Z = true) (ws : List Jvm.Cond) (o0 : Addr) (s0 : Addr) (kA : ClassId) (eb : UInt64) (x0 : UInt64) (x1 : UInt64) (x2 : UInt64) (h0 : Heap) (n0 : Nat) (Z0 : n0 ≤ h0.size) (F_grid_o0 : Fld Z h0 o0 "com/example/hedgeway/hedgeway/routing/Lambdas" "grid" "[D" (.ref s0)) (F_errorBound_o0 : Fld Z h0 o0 "com/example/hedgeway/hedgeway/routing/Lambdas" "errorBound" "D" (.double eb)) (E_o0 : Exa Z h0 o0 "com/example/hedgeway/hedgeway/routing/Lambdas") (V_s0 : Arv Z h0 s0 kA .double (3 : Int32) [(.double x0), (.double x1), (.double x2)] (.double (0 : UInt64))) (hd33_5_5 : (cmpValue (FP.dcmp x1 x0) .g) = (1 : Int32)) (hd49_5_5 : (cmpValue (FP.dcmp x1 x0) .l) = (1 : Int32)) (hd33_1_5_5 : (cmpValue (FP.dcmp x0 x0) .g) = (0 : Int32)) (hd49_1_5_5 : (cmpValue (FP.dcmp x0 x0) .l) = (0 : Int32)) (hd2_1_64_5_5 : (cmpValue (FP.dcmp x0 x0) .l) = (0 : Int32)) (hd2_1_70_5_5 : (cmpValue (FP.dcmp x0 x0) .l) = (0 : Int32)) :
    MetFree l (⟨"com/example/hedgeway/hedgeway/routing/Lambdas", "firstAtLeast", "(D)I"⟩ : MethodName) (head1 (Jvm.Cond.code (⟨"com/example/hedgeway/hedgeway/routing/Lambdas", "firstAtLeast", "(D)I"⟩ : MethodName) prog_29_method_8_code 4 (some .int) :: ws) ({ frames := 4, cells := 0, slots := 0, locals := 67 } : Room)) (fun a U => a = #[(.ref o0), (.double x0)] ∧ Z.Warmed39 U.vm ∧ U.heap = h0) (fun _ _ _ _ _ => True) (fun _ U o U' => ∃ v L, o = .returned v ∧ Q_fal0 Z o0 s0 kA eb x0 x1 x2 h0 n0 v U'.heap L ∧ FrameEnd U o U' L ({ frames := 4, cells := 0, slots := 0, locals := 67 } : Room).cells ({ frames := 4, cells := 0, slots := 0, locals := 67 } : Room).slots) := by
  refine MetFree.of_bodySF (plainFor_of_name pn_com_example_hedgeway_hedgeway_routing_Lambdas) hisR ?_
  intro p e s m args below meth c s₁ Bd hml0 hP hK
  obtain ⟨rfl, hZ, hh⟩ := hP
  have hx := Bd.exec
  have hby := Bd.bytes
  have hml : c.maxLocals = 4 := hml0
  have hown : s.vm.findClass "com/example/hedgeway/hedgeway/routing/Lambdas" = some m.cls := findClass_of_methodNamed Bd.named
  have hnm := (name_of_methodNamed Bd.named Bd.method).1
  have X0 : Stand p l e ({ frames := 4, cells := 0, slots := 0, locals := 67 } : Room) s m #[(.ref o0), (.double x0)] below meth c s₁ [] 0 0 := Stand.of_body Bd
  have e0 : s₁.heap = h0 := by rw [← hh, Bd.state]; rfl
  have N0 := Fr.nil n0
  have pre0 : ∀ t, Steps p.tables e below (s₁.setTop (mkF m 0 #[.val (.ref o0), .val (.double x0), .second, .unset] [])) t → Steps p.tables e below (s₁.setTop (entryFrame m #[(.ref o0), (.double x0)] 4)) t := fun t k => castTop (ef_11_RD m o0 x0) k
  obtain ⟨T1, X1, e1, st1⟩ := getF X0 hx hZ hown (host := "") (Or.inl (hw _ (List.mem_of_getElem? (i := 22) rfl))) Via.refl e0 F_grid_o0 (g := (mkF m 1 #[.val (.ref o0), .val (.double x0), .second, .unset] [(.ref o0)])) rfl rfl (hb hby d11_1)
  obtain ⟨_, _, ⟨T2, L2, k2, n2⟩, -, X2, ⟨Lc2, hQ2, l2, y2, z2⟩, st2⟩ := Jvm.LawKit.callS X1 hx (y := (⟨"java/util/Arrays", "binarySearch", "([DD)I"⟩ : MethodName)) hown (mvT hZ (hw _ (List.mem_of_getElem? (i := 50) rfl))) (mvT hZ (hw _ (List.mem_of_getElem? (i := 51) rfl))) (mvT hZ (hw _ (List.mem_of_getElem? (i := 52) rfl))) (mvT hZ (hw _ (List.mem_of_getElem? (i := 53) rfl))) (by decide) (backOf (W := 0) (e0_9 l Z a0 hw [] s0 kA x0 x1 x2 h0 n0 Z0 V_s0 hd33_5_5 hd49_5_5 hd33_1_5_5 hd49_1_5_5 hd2_1_64_5_5 hd2_1_70_5_5) hZ (hw _ (List.mem_of_getElem? (i := 53) rfl)) (hw _ (List.mem_of_getElem? (i := 52) rfl)) (by decide) (by decide)) (g := (mkF m 5 #[.val (.ref o0), .val (.double x0), .second, .unset] [(.double x0), (.ref s0)])) rfl (by rw [hml]; rfl) (argsL := [(.ref s0), (.double x0)]) (rest := []) (lenOf pd_3 rfl) rfl (by show 2 * 0 + _ ≤ _; exact Nat.le_of_eq rfl) (hb hby d11_5) (fun _ _ => ⟨rfl, e1, (by decide : 0 + 0 ≤ _), (by decide : 0 + 0 ≤ _)⟩)
  dsimp only [Pt.U, Pt.locs, Pt.cells, Pt.slots] at X2 l2 y2 z2 st2 hQ2
  subst l2 y2 z2
  obtain ⟨rfl, N2q, eh2⟩ := hQ2
  have N2 := Fr.app N0 N2q
  have e2 : T2.heap = h0 := eh2
  obtain ⟨fs, hr, hrun, hended, hW, hsame⟩ := X2.leave (v := some (.int (0 : Int32))) (fun h => by rw [Bd.returns] at h; cases h)
  refine ⟨_, _, pre0 _ ?_, hrun, hended, _, _, rfl, ?_, ⟨_, rfl⟩, hW, hsame.mono (by decide) (by decide)⟩
  · show Steps p.tables e below (s₁.setTop (mkF m 0 #[.val (.ref o0), .val (.double x0), .second, .unset] [])) _
    refine XS.aloadN X0.here hx rfl (hb hby d11_0) rfl rfl ?_
    show Steps p.tables e below (s₁.setTop (mkF m 1 #[.val (.ref o0), .val (.double x0), .second, .unset] [(.ref o0)])) _
    refine st1 _ ?_
    show Steps p.tables e below (T1.setTop (mkF m 4 #[.val (.ref o0), .val (.double x0), .second, .unset] [(.ref s0)])) _
    refine XS.dloadN X1.here hx rfl (hb hby d11_4) rfl ?_
    show Steps p.tables e below (T1.setTop (mkF m 5 #[.val (.ref o0), .val (.double x0), .second, .unset] [(.double x0), (.ref s0)])) _
    refine st2 _ ?_
    show Steps p.tables e below (T2.setTop (mkF m 8 #[.val (.ref o0), .val (.double x0), .second, .unset] [(.int (0 : Int32))])) _
    refine XS.istoreN X2.here hx rfl (hb hby d11_8) rfl (l' := #[.val (.ref o0), .val (.double x0), .second, .val (.int (0 : Int32))]) rfl ?_
    show Steps p.tables e below (T2.setTop (mkF m 9 #[.val (.ref o0), .val (.double x0), .second, .val (.int (0 : Int32))] [])) _
    refine XS.iloadN X2.here hx rfl (hb hby d11_9) rfl ?_
    show Steps p.tables e below (T2.setTop (mkF m 10 #[.val (.ref o0), .val (.double x0), .second, .val (.int (0 : Int32))] [(.int (0 : Int32))])) _
    refine XS.ifNo X2.here hx rfl (hb hby d11_10) rfl ((if0 _ _).trans (flt (by decide : ¬ ((0 : Int32) < (0 : Int32)))).1) ?_
    show Steps p.tables e below (T2.setTop (mkF m 13 #[.val (.ref o0), .val (.double x0), .second, .val (.int (0 : Int32))] [])) _
    refine XS.iloadN X2.here hx rfl (hb hby d11_13) rfl ?_
    show Steps p.tables e below (T2.setTop (mkF m 14 #[.val (.ref o0), .val (.double x0), .second, .val (.int (0 : Int32))] [(.int (0 : Int32))])) _
    refine XS.goto X2.here hx rfl (pc0 := 14) (pc' := 21) rfl (hb hby d11_14) (by decide) (by decide) ?_
    show Steps p.tables e below (T2.setTop (mkF m 21 #[.val (.ref o0), .val (.double x0), .second, .val (.int (0 : Int32))] [(.int (0 : Int32))])) _
    exact retOut X2 hx Bd.returns rfl (Or.inl ⟨rfl, Or.inl rfl, _, rfl⟩) (hb hby d11_21) hr
  · show Q_fal0 Z o0 s0 kA eb x0 x1 x2 h0 n0 _ T2.heap _
    rw [e2]
    exact ⟨rfl, N2, rfl⟩
def Q_fal1 (Z : State) (o0 : Addr) (s0 : Addr) (kA : ClassId) (eb : UInt64) (x0 : UInt64) (x1 : UInt64) (x2 : UInt64) (h0 : Heap) (n0 : Nat) (v : Option Value) (h : Heap) (L : List Loc) : Prop := v = some (.int (1 : Int32)) ∧ Fr n0 L ∧ h = h0
set_option maxRecDepth 65536 in
set_option maxHeartbeats 40000000 in
theorem fal1 (l : Launch) (Z : State) (a0 : Array Value) (hw : ∀ d ∈ tables_1, d.before a0 Z = true) (ws : List Jvm.Cond) (o0 : Addr) (s0 : Addr) (kA : ClassId) (eb : UInt64) (x0 : UInt64) (x1 : UInt64) (x2 : UInt64) (h0 : Heap) (n0 : Nat) (Z0 : n0 ≤ h0.size) (F_grid_o0 : Fld Z h0 o0 "com/example/hedgeway/hedgeway/routing/Lambdas" "grid" "[D" (.ref s0)) (F_errorBound_o0 : Fld Z h0 o0 "com/example/hedgeway/hedgeway/routing/Lambdas" "errorBound" "D" (.double eb)) (E_o0 : Exa Z h0 o0 "com/example/hedgeway/hedgeway/routing/Lambdas") (V_s0 : Arv Z h0 s0 kA .double (3 : Int32) [(.double x0), (.double x1), (.double x2)] (.double (0 : UInt64))) (hd33_5_5 : (cmpValue (FP.dcmp x1 x1) .g) = (0 : Int32)) (hd49_5_5 : (cmpValue (FP.dcmp x1 x1) .l) = (0 : Int32)) (hd2_1_64_5_5 : (cmpValue (FP.dcmp x1 x1) .l) = (0 : Int32)) (hd2_1_70_5_5 : (cmpValue (FP.dcmp x1 x1) .l) = (0 : Int32)) :
    MetFree l (⟨"com/example/hedgeway/hedgeway/routing/Lambdas", "firstAtLeast", "(D)I"⟩ : MethodName) (head1 (Jvm.Cond.code (⟨"com/example/hedgeway/hedgeway/routing/Lambdas", "firstAtLeast", "(D)I"⟩ : MethodName) prog_29_method_8_code 4 (some .int) :: ws) ({ frames := 4, cells := 0, slots := 0, locals := 67 } : Room)) (fun a U => a = #[(.ref o0), (.double x1)] ∧ Z.Warmed39 U.vm ∧ U.heap = h0) (fun _ _ _ _ _ => True) (fun _ U o U' => ∃ v L, o = .returned v ∧ Q_fal1 Z o0 s0 kA eb x0 x1 x2 h0 n0 v U'.heap L ∧ FrameEnd U o U' L ({ frames := 4, cells := 0, slots := 0, locals := 67 } : Room).cells ({ frames := 4, cells := 0, slots := 0, locals := 67 } : Room).slots) := by
  refine MetFree.of_bodySF (plainFor_of_name pn_com_example_hedgeway_hedgeway_routing_Lambdas) hisR ?_
  intro p e s m args below meth c s₁ Bd hml0 hP hK
  obtain ⟨rfl, hZ, hh⟩ := hP
  have hx := Bd.exec
  have hby := Bd.bytes
  have hml : c.maxLocals = 4 := hml0
  have hown : s.vm.findClass "com/example/hedgeway/hedgeway/routing/Lambdas" = some m.cls := findClass_of_methodNamed Bd.named
  have hnm := (name_of_methodNamed Bd.named Bd.method).1
  have X0 : Stand p l e ({ frames := 4, cells := 0, slots := 0, locals := 67 } : Room) s m #[(.ref o0), (.double x1)] below meth c s₁ [] 0 0 := Stand.of_body Bd
  have e0 : s₁.heap = h0 := by rw [← hh, Bd.state]; rfl
  have N0 := Fr.nil n0
  have pre0 : ∀ t, Steps p.tables e below (s₁.setTop (mkF m 0 #[.val (.ref o0), .val (.double x1), .second, .unset] [])) t → Steps p.tables e below (s₁.setTop (entryFrame m #[(.ref o0), (.double x1)] 4)) t := fun t k => castTop (ef_11_RD m o0 x1) k
  obtain ⟨T1, X1, e1, st1⟩ := getF X0 hx hZ hown (host := "") (Or.inl (hw _ (List.mem_of_getElem? (i := 22) rfl))) Via.refl e0 F_grid_o0 (g := (mkF m 1 #[.val (.ref o0), .val (.double x1), .second, .unset] [(.ref o0)])) rfl rfl (hb hby d11_1)
  obtain ⟨_, _, ⟨T2, L2, k2, n2⟩, -, X2, ⟨Lc2, hQ2, l2, y2, z2⟩, st2⟩ := Jvm.LawKit.callS X1 hx (y := (⟨"java/util/Arrays", "binarySearch", "([DD)I"⟩ : MethodName)) hown (mvT hZ (hw _ (List.mem_of_getElem? (i := 50) rfl))) (mvT hZ (hw _ (List.mem_of_getElem? (i := 51) rfl))) (mvT hZ (hw _ (List.mem_of_getElem? (i := 52) rfl))) (mvT hZ (hw _ (List.mem_of_getElem? (i := 53) rfl))) (by decide) (backOf (W := 0) (e1_9 l Z a0 hw [] s0 kA x0 x1 x2 h0 n0 Z0 V_s0 hd33_5_5 hd49_5_5 hd2_1_64_5_5 hd2_1_70_5_5) hZ (hw _ (List.mem_of_getElem? (i := 53) rfl)) (hw _ (List.mem_of_getElem? (i := 52) rfl)) (by decide) (by decide)) (g := (mkF m 5 #[.val (.ref o0), .val (.double x1), .second, .unset] [(.double x1), (.ref s0)])) rfl (by rw [hml]; rfl) (argsL := [(.ref s0), (.double x1)]) (rest := []) (lenOf pd_3 rfl) rfl (by show 2 * 0 + _ ≤ _; exact Nat.le_of_eq rfl) (hb hby d11_5) (fun _ _ => ⟨rfl, e1, (by decide : 0 + 0 ≤ _), (by decide : 0 + 0 ≤ _)⟩)
  dsimp only [Pt.U, Pt.locs, Pt.cells, Pt.slots] at X2 l2 y2 z2 st2 hQ2
  subst l2 y2 z2
  obtain ⟨rfl, N2q, eh2⟩ := hQ2
  have N2 := Fr.app N0 N2q
  have e2 : T2.heap = h0 := eh2
  obtain ⟨fs, hr, hrun, hended, hW, hsame⟩ := X2.leave (v := some (.int (1 : Int32))) (fun h => by rw [Bd.returns] at h; cases h)
  refine ⟨_, _, pre0 _ ?_, hrun, hended, _, _, rfl, ?_, ⟨_, rfl⟩, hW, hsame.mono (by decide) (by decide)⟩
  · show Steps p.tables e below (s₁.setTop (mkF m 0 #[.val (.ref o0), .val (.double x1), .second, .unset] [])) _
    refine XS.aloadN X0.here hx rfl (hb hby d11_0) rfl rfl ?_
    show Steps p.tables e below (s₁.setTop (mkF m 1 #[.val (.ref o0), .val (.double x1), .second, .unset] [(.ref o0)])) _
    refine st1 _ ?_
    show Steps p.tables e below (T1.setTop (mkF m 4 #[.val (.ref o0), .val (.double x1), .second, .unset] [(.ref s0)])) _
    refine XS.dloadN X1.here hx rfl (hb hby d11_4) rfl ?_
    show Steps p.tables e below (T1.setTop (mkF m 5 #[.val (.ref o0), .val (.double x1), .second, .unset] [(.double x1), (.ref s0)])) _
    refine st2 _ ?_
    show Steps p.tables e below (T2.setTop (mkF m 8 #[.val (.ref o0), .val (.double x1), .second, .unset] [(.int (1 : Int32))])) _
    refine XS.istoreN X2.here hx rfl (hb hby d11_8) rfl (l' := #[.val (.ref o0), .val (.double x1), .second, .val (.int (1 : Int32))]) rfl ?_
    show Steps p.tables e below (T2.setTop (mkF m 9 #[.val (.ref o0), .val (.double x1), .second, .val (.int (1 : Int32))] [])) _
    refine XS.iloadN X2.here hx rfl (hb hby d11_9) rfl ?_
    show Steps p.tables e below (T2.setTop (mkF m 10 #[.val (.ref o0), .val (.double x1), .second, .val (.int (1 : Int32))] [(.int (1 : Int32))])) _
    refine XS.ifNo X2.here hx rfl (hb hby d11_10) rfl ((if0 _ _).trans (flt (by decide : ¬ ((1 : Int32) < (0 : Int32)))).1) ?_
    show Steps p.tables e below (T2.setTop (mkF m 13 #[.val (.ref o0), .val (.double x1), .second, .val (.int (1 : Int32))] [])) _
    refine XS.iloadN X2.here hx rfl (hb hby d11_13) rfl ?_
    show Steps p.tables e below (T2.setTop (mkF m 14 #[.val (.ref o0), .val (.double x1), .second, .val (.int (1 : Int32))] [(.int (1 : Int32))])) _
    refine XS.goto X2.here hx rfl (pc0 := 14) (pc' := 21) rfl (hb hby d11_14) (by decide) (by decide) ?_
    show Steps p.tables e below (T2.setTop (mkF m 21 #[.val (.ref o0), .val (.double x1), .second, .val (.int (1 : Int32))] [(.int (1 : Int32))])) _
    exact retOut X2 hx Bd.returns rfl (Or.inl ⟨rfl, Or.inl rfl, _, rfl⟩) (hb hby d11_21) hr
  · show Q_fal1 Z o0 s0 kA eb x0 x1 x2 h0 n0 _ T2.heap _
    rw [e2]
    exact ⟨rfl, N2, rfl⟩
def Q_fal2 (Z : State) (o0 : Addr) (s0 : Addr) (kA : ClassId) (eb : UInt64) (x0 : UInt64) (x1 : UInt64) (x2 : UInt64) (h0 : Heap) (n0 : Nat) (v : Option Value) (h : Heap) (L : List Loc) : Prop := v = some (.int (2 : Int32)) ∧ Fr n0 L ∧ h = h0
set_option maxRecDepth 65536 in
set_option maxHeartbeats 40000000 in
theorem fal2 (l : Launch) (Z : State) (a0 : Array Value) (hw : ∀ d ∈ tables_1, d.before a0 Z = true) (ws : List Jvm.Cond) (o0 : Addr) (s0 : Addr) (kA : ClassId) (eb : UInt64) (x0 : UInt64) (x1 : UInt64) (x2 : UInt64) (h0 : Heap) (n0 : Nat) (Z0 : n0 ≤ h0.size) (F_grid_o0 : Fld Z h0 o0 "com/example/hedgeway/hedgeway/routing/Lambdas" "grid" "[D" (.ref s0)) (F_errorBound_o0 : Fld Z h0 o0 "com/example/hedgeway/hedgeway/routing/Lambdas" "errorBound" "D" (.double eb)) (E_o0 : Exa Z h0 o0 "com/example/hedgeway/hedgeway/routing/Lambdas") (V_s0 : Arv Z h0 s0 kA .double (3 : Int32) [(.double x0), (.double x1), (.double x2)] (.double (0 : UInt64))) (hd33_5_5 : (cmpValue (FP.dcmp x1 x2) .g) = (-1 : Int32)) (hd33_1_5_5 : (cmpValue (FP.dcmp x2 x2) .g) = (0 : Int32)) (hd49_5_5 : (cmpValue (FP.dcmp x2 x2) .l) = (0 : Int32)) (hd2_1_64_5_5 : (cmpValue (FP.dcmp x2 x2) .l) = (0 : Int32)) (hd2_1_70_5_5 : (cmpValue (FP.dcmp x2 x2) .l) = (0 : Int32)) :
    MetFree l (⟨"com/example/hedgeway/hedgeway/routing/Lambdas", "firstAtLeast", "(D)I"⟩ : MethodName) (head1 (Jvm.Cond.code (⟨"com/example/hedgeway/hedgeway/routing/Lambdas", "firstAtLeast", "(D)I"⟩ : MethodName) prog_29_method_8_code 4 (some .int) :: ws) ({ frames := 4, cells := 0, slots := 0, locals := 67 } : Room)) (fun a U => a = #[(.ref o0), (.double x2)] ∧ Z.Warmed39 U.vm ∧ U.heap = h0) (fun _ _ _ _ _ => True) (fun _ U o U' => ∃ v L, o = .returned v ∧ Q_fal2 Z o0 s0 kA eb x0 x1 x2 h0 n0 v U'.heap L ∧ FrameEnd U o U' L ({ frames := 4, cells := 0, slots := 0, locals := 67 } : Room).cells ({ frames := 4, cells := 0, slots := 0, locals := 67 } : Room).slots) := by
  refine MetFree.of_bodySF (plainFor_of_name pn_com_example_hedgeway_hedgeway_routing_Lambdas) hisR ?_
  intro p e s m args below meth c s₁ Bd hml0 hP hK
  obtain ⟨rfl, hZ, hh⟩ := hP
  have hx := Bd.exec
  have hby := Bd.bytes
  have hml : c.maxLocals = 4 := hml0
  have hown : s.vm.findClass "com/example/hedgeway/hedgeway/routing/Lambdas" = some m.cls := findClass_of_methodNamed Bd.named
  have hnm := (name_of_methodNamed Bd.named Bd.method).1
  have X0 : Stand p l e ({ frames := 4, cells := 0, slots := 0, locals := 67 } : Room) s m #[(.ref o0), (.double x2)] below meth c s₁ [] 0 0 := Stand.of_body Bd
  have e0 : s₁.heap = h0 := by rw [← hh, Bd.state]; rfl
  have N0 := Fr.nil n0
  have pre0 : ∀ t, Steps p.tables e below (s₁.setTop (mkF m 0 #[.val (.ref o0), .val (.double x2), .second, .unset] [])) t → Steps p.tables e below (s₁.setTop (entryFrame m #[(.ref o0), (.double x2)] 4)) t := fun t k => castTop (ef_11_RD m o0 x2) k
  obtain ⟨T1, X1, e1, st1⟩ := getF X0 hx hZ hown (host := "") (Or.inl (hw _ (List.mem_of_getElem? (i := 22) rfl))) Via.refl e0 F_grid_o0 (g := (mkF m 1 #[.val (.ref o0), .val (.double x2), .second, .unset] [(.ref o0)])) rfl rfl (hb hby d11_1)
  obtain ⟨_, _, ⟨T2, L2, k2, n2⟩, -, X2, ⟨Lc2, hQ2, l2, y2, z2⟩, st2⟩ := Jvm.LawKit.callS X1 hx (y := (⟨"java/util/Arrays", "binarySearch", "([DD)I"⟩ : MethodName)) hown (mvT hZ (hw _ (List.mem_of_getElem? (i := 50) rfl))) (mvT hZ (hw _ (List.mem_of_getElem? (i := 51) rfl))) (mvT hZ (hw _ (List.mem_of_getElem? (i := 52) rfl))) (mvT hZ (hw _ (List.mem_of_getElem? (i := 53) rfl))) (by decide) (backOf (W := 0) (e2_9 l Z a0 hw [] s0 kA x0 x1 x2 h0 n0 Z0 V_s0 hd33_5_5 hd33_1_5_5 hd49_5_5 hd2_1_64_5_5 hd2_1_70_5_5) hZ (hw _ (List.mem_of_getElem? (i := 53) rfl)) (hw _ (List.mem_of_getElem? (i := 52) rfl)) (by decide) (by decide)) (g := (mkF m 5 #[.val (.ref o0), .val (.double x2), .second, .unset] [(.double x2), (.ref s0)])) rfl (by rw [hml]; rfl) (argsL := [(.ref s0), (.double x2)]) (rest := []) (lenOf pd_3 rfl) rfl (by show 2 * 0 + _ ≤ _; exact Nat.le_of_eq rfl) (hb hby d11_5) (fun _ _ => ⟨rfl, e1, (by decide : 0 + 0 ≤ _), (by decide : 0 + 0 ≤ _)⟩)
  dsimp only [Pt.U, Pt.locs, Pt.cells, Pt.slots] at X2 l2 y2 z2 st2 hQ2
  subst l2 y2 z2
  obtain ⟨rfl, N2q, eh2⟩ := hQ2
  have N2 := Fr.app N0 N2q
  have e2 : T2.heap = h0 := eh2
  obtain ⟨fs, hr, hrun, hended, hW, hsame⟩ := X2.leave (v := some (.int (2 : Int32))) (fun h => by rw [Bd.returns] at h; cases h)
  refine ⟨_, _, pre0 _ ?_, hrun, hended, _, _, rfl, ?_, ⟨_, rfl⟩, hW, hsame.mono (by decide) (by decide)⟩
  · show Steps p.tables e below (s₁.setTop (mkF m 0 #[.val (.ref o0), .val (.double x2), .second, .unset] [])) _
    refine XS.aloadN X0.here hx rfl (hb hby d11_0) rfl rfl ?_
    show Steps p.tables e below (s₁.setTop (mkF m 1 #[.val (.ref o0), .val (.double x2), .second, .unset] [(.ref o0)])) _
    refine st1 _ ?_
    show Steps p.tables e below (T1.setTop (mkF m 4 #[.val (.ref o0), .val (.double x2), .second, .unset] [(.ref s0)])) _
    refine XS.dloadN X1.here hx rfl (hb hby d11_4) rfl ?_
    show Steps p.tables e below (T1.setTop (mkF m 5 #[.val (.ref o0), .val (.double x2), .second, .unset] [(.double x2), (.ref s0)])) _
    refine st2 _ ?_
    show Steps p.tables e below (T2.setTop (mkF m 8 #[.val (.ref o0), .val (.double x2), .second, .unset] [(.int (2 : Int32))])) _
    refine XS.istoreN X2.here hx rfl (hb hby d11_8) rfl (l' := #[.val (.ref o0), .val (.double x2), .second, .val (.int (2 : Int32))]) rfl ?_
    show Steps p.tables e below (T2.setTop (mkF m 9 #[.val (.ref o0), .val (.double x2), .second, .val (.int (2 : Int32))] [])) _
    refine XS.iloadN X2.here hx rfl (hb hby d11_9) rfl ?_
    show Steps p.tables e below (T2.setTop (mkF m 10 #[.val (.ref o0), .val (.double x2), .second, .val (.int (2 : Int32))] [(.int (2 : Int32))])) _
    refine XS.ifNo X2.here hx rfl (hb hby d11_10) rfl ((if0 _ _).trans (flt (by decide : ¬ ((2 : Int32) < (0 : Int32)))).1) ?_
    show Steps p.tables e below (T2.setTop (mkF m 13 #[.val (.ref o0), .val (.double x2), .second, .val (.int (2 : Int32))] [])) _
    refine XS.iloadN X2.here hx rfl (hb hby d11_13) rfl ?_
    show Steps p.tables e below (T2.setTop (mkF m 14 #[.val (.ref o0), .val (.double x2), .second, .val (.int (2 : Int32))] [(.int (2 : Int32))])) _
    refine XS.goto X2.here hx rfl (pc0 := 14) (pc' := 21) rfl (hb hby d11_14) (by decide) (by decide) ?_
    show Steps p.tables e below (T2.setTop (mkF m 21 #[.val (.ref o0), .val (.double x2), .second, .val (.int (2 : Int32))] [(.int (2 : Int32))])) _
    exact retOut X2 hx Bd.returns rfl (Or.inl ⟨rfl, Or.inl rfl, _, rfl⟩) (hb hby d11_21) hr
  · show Q_fal2 Z o0 s0 kA eb x0 x1 x2 h0 n0 _ T2.heap _
    rw [e2]
    exact ⟨rfl, N2, rfl⟩
theorem d7_0 : decode prog_29_method_6_code 0 = .ok (.aload_n 0, 1) := by decide +kernel
theorem d7_1 : decode prog_29_method_6_code 1 = .ok (.dload_n 1, 1) := by decide +kernel
theorem d7_2 : decode prog_29_method_6_code 2 = .ok (.invokevirtual 29, 3) := by decide +kernel
theorem pd_4 : parseMethodDescriptor "(D)I" = some ⟨[.double], some .int⟩ := by decide +kernel
theorem d7_5 : decode prog_29_method_6_code 5 = .ok (.istore 7, 2) := by decide +kernel
theorem d7_7 : decode prog_29_method_6_code 7 = .ok (.aload_n 0, 1) := by decide +kernel
theorem d7_8 : decode prog_29_method_6_code 8 = .ok (.dload_n 3, 1) := by decide +kernel
theorem d7_9 : decode prog_29_method_6_code 9 = .ok (.invokevirtual 33, 3) := by decide +kernel
theorem d7_12 : decode prog_29_method_6_code 12 = .ok (.iconst 1, 1) := by decide +kernel
theorem d7_13 : decode prog_29_method_6_code 13 = .ok (.isub, 1) := by decide +kernel
theorem d7_14 : decode prog_29_method_6_code 14 = .ok (.istore 8, 2) := by decide +kernel
theorem d7_16 : decode prog_29_method_6_code 16 = .ok (.iload 7, 2) := by decide +kernel
theorem d7_18 : decode prog_29_method_6_code 18 = .ok (.iload 8, 2) := by decide +kernel
theorem d7_20 : decode prog_29_method_6_code 20 = .ok (.if_icmp .le 7, 3) := by decide +kernel
theorem d7_27 : decode prog_29_method_6_code 27 = .ok (.dload 5, 2) := by decide +kernel
theorem d7_29 : decode prog_29_method_6_code 29 = .ok (.aload_n 0, 1) := by decide +kernel
theorem d7_30 : decode prog_29_method_6_code 30 = .ok (.getfield 7, 3) := by decide +kernel
theorem d7_33 : decode prog_29_method_6_code 33 = .ok (.iload 7, 2) := by decide +kernel
theorem d7_35 : decode prog_29_method_6_code 35 = .ok (.daload, 1) := by decide +kernel
theorem d7_36 : decode prog_29_method_6_code 36 = .ok (.invokestatic 40, 3) := by decide +kernel
theorem pd_5 : parseMethodDescriptor "(DD)D" = some ⟨[.double, .double], some .double⟩ := by decide +kernel
theorem d7_39 : decode prog_29_method_6_code 39 = .ok (.aload_n 0, 1) := by decide +kernel
theorem d7_40 : decode prog_29_method_6_code 40 = .ok (.getfield 7, 3) := by decide +kernel
theorem d7_43 : decode prog_29_method_6_code 43 = .ok (.iload 8, 2) := by decide +kernel
theorem d7_45 : decode prog_29_method_6_code 45 = .ok (.daload, 1) := by decide +kernel
theorem d7_46 : decode prog_29_method_6_code 46 = .ok (.invokestatic 46, 3) := by decide +kernel
theorem d7_49 : decode prog_29_method_6_code 49 = .ok (.dstore 9, 2) := by decide +kernel
theorem d7_51 : decode prog_29_method_6_code 51 = .ok (.aload_n 0, 1) := by decide +kernel
theorem d7_52 : decode prog_29_method_6_code 52 = .ok (.dload 9, 2) := by decide +kernel
theorem d7_54 : decode prog_29_method_6_code 54 = .ok (.invokevirtual 33, 3) := by decide +kernel
theorem d7_57 : decode prog_29_method_6_code 57 = .ok (.istore 11, 2) := by decide +kernel
theorem d7_59 : decode prog_29_method_6_code 59 = .ok (.iload 11, 2) := by decide +kernel
theorem d7_61 : decode prog_29_method_6_code 61 = .ok (.iload 7, 2) := by decide +kernel
theorem d7_63 : decode prog_29_method_6_code 63 = .ok (.if_icmp .le 32, 3) := by decide +kernel
theorem d7_95 : decode prog_29_method_6_code 95 = .ok (.aload_n 0, 1) := by decide +kernel
theorem d7_96 : decode prog_29_method_6_code 96 = .ok (.getfield 7, 3) := by decide +kernel
theorem d7_99 : decode prog_29_method_6_code 99 = .ok (.iload 11, 2) := by decide +kernel
theorem d7_101 : decode prog_29_method_6_code 101 = .ok (.daload, 1) := by decide +kernel
theorem d7_102 : decode prog_29_method_6_code 102 = .ok (.dreturn, 1) := by decide +kernel
theorem ef_7_RDDD (m : MethodId) (x0 : Addr) (x1 : UInt64) (x2 : UInt64) (x3 : UInt64) : entryFrame m #[(.ref x0), (.double x1), (.double x2), (.double x3)] 12 = mkF m 0 #[.val (.ref x0), .val (.double x1), .second, .val (.double x2), .second, .val (.double x3), .second, .unset, .unset, .unset, .unset, .unset] [] := by first | (simp [entryFrame, mkF, argsToLocals, Value.category]; done) | rfl
def Q_nb0 (Z : State) (o0 : Addr) (s0 : Addr) (kA : ClassId) (eb : UInt64) (x0 : UInt64) (x1 : UInt64) (x2 : UInt64) (lo : UInt64) (hi : UInt64) (wn : UInt64) (um : UInt64) (h0 : Heap) (n0 : Nat) (v : Option Value) (h : Heap) (L : List Loc) : Prop := v = some (.double x0) ∧ Fr n0 L ∧ h = h0
set_option maxRecDepth 65536 in
set_option maxHeartbeats 40000000 in
theorem nb0 (l : Launch) (Z : State) (a0 : Array Value) (hw : ∀ d ∈ tables_1, d.before a0 Z = true) (ws : List Jvm.Cond) (o0 : Addr) (s0 : Addr) (kA : ClassId) (eb : UInt64) (x0 : UInt64) (x1 : UInt64) (x2 : UInt64) (lo : UInt64) (hi : UInt64) (wn : UInt64) (um : UInt64) (h0 : Heap) (n0 : Nat) (Z0 : n0 ≤ h0.size) (F_grid_o0 : Fld Z h0 o0 "com/example/hedgeway/hedgeway/routing/Lambdas" "grid" "[D" (.ref s0)) (F_errorBound_o0 : Fld Z h0 o0 "com/example/hedgeway/hedgeway/routing/Lambdas" "errorBound" "D" (.double eb)) (E_o0 : Exa Z h0 o0 "com/example/hedgeway/hedgeway/routing/Lambdas") (V_s0 : Arv Z h0 s0 kA .double (3 : Int32) [(.double x0), (.double x1), (.double x2)] (.double (0 : UInt64))) (hmin : (Native.java_lang_Math.nans.pick64 false um x2) = x0) (hd33_5_5_2 : (cmpValue (FP.dcmp x1 lo) .g) = (1 : Int32)) (hd49_5_5_2 : (cmpValue (FP.dcmp x1 lo) .l) = (1 : Int32)) (hd33_1_5_5_2 : (cmpValue (FP.dcmp x0 lo) .g) = (1 : Int32)) (hd49_1_5_5_2 : (cmpValue (FP.dcmp x0 lo) .l) = (1 : Int32)) (hd33_5_5_9 : (cmpValue (FP.dcmp x1 hi) .g) = (-1 : Int32)) (hd33_1_5_5_9 : (cmpValue (FP.dcmp x2 hi) .g) = (-1 : Int32)) (nna36 : Jvm.Free.Fl.NoNaN64 wn) (nnb36 : Jvm.Free.Fl.NoNaN64 x0) (hq36 : (Native.java_lang_Math.nans.pick64 true wn x0) = um) (nna46 : Jvm.Free.Fl.NoNaN64 um) (nnb46 : Jvm.Free.Fl.NoNaN64 x2) (hd33_5_5_54 : (cmpValue (FP.dcmp x1 x0) .g) = (1 : Int32)) (hd49_5_5_54 : (cmpValue (FP.dcmp x1 x0) .l) = (1 : Int32)) (hd33_1_5_5_54 : (cmpValue (FP.dcmp x0 x0) .g) = (0 : Int32)) (hd49_1_5_5_54 : (cmpValue (FP.dcmp x0 x0) .l) = (0 : Int32)) (hd2_1_64_5_5_54 : (cmpValue (FP.dcmp x0 x0) .l) = (0 : Int32)) (hd2_1_70_5_5_54 : (cmpValue (FP.dcmp x0 x0) .l) = (0 : Int32)) :
    MetFree l (⟨"com/example/hedgeway/hedgeway/routing/Lambdas", "nearestBetween", "(DDD)D"⟩ : MethodName) (head1 (Jvm.Cond.code (⟨"com/example/hedgeway/hedgeway/routing/Lambdas", "nearestBetween", "(DDD)D"⟩ : MethodName) prog_29_method_6_code 12 (some .double) :: ws) ({ frames := 5, cells := 0, slots := 0, locals := 82 } : Room)) (fun a U => a = #[(.ref o0), (.double lo), (.double hi), (.double wn)] ∧ Z.Warmed39 U.vm ∧ U.heap = h0) (fun _ _ _ _ _ => True) (fun _ U o U' => ∃ v L, o = .returned v ∧ Q_nb0 Z o0 s0 kA eb x0 x1 x2 lo hi wn um h0 n0 v U'.heap L ∧ FrameEnd U o U' L ({ frames := 5, cells := 0, slots := 0, locals := 82 } : Room).cells ({ frames := 5, cells := 0, slots := 0, locals := 82 } : Room).slots) := by
  refine MetFree.of_bodySF (plainFor_of_name pn_com_example_hedgeway_hedgeway_routing_Lambdas) hisR ?_
  intro p e s m args below meth c s₁ Bd hml0 hP hK
  obtain ⟨rfl, hZ, hh⟩ := hP
  have hx := Bd.exec
  have hby := Bd.bytes
  have hml : c.maxLocals = 12 := hml0
  have hown : s.vm.findClass "com/example/hedgeway/hedgeway/routing/Lambdas" = some m.cls := findClass_of_methodNamed Bd.named
  have hnm := (name_of_methodNamed Bd.named Bd.method).1
  have X0 : Stand p l e ({ frames := 5, cells := 0, slots := 0, locals := 82 } : Room) s m #[(.ref o0), (.double lo), (.double hi), (.double wn)] below meth c s₁ [] 0 0 := Stand.of_body Bd
  have e0 : s₁.heap = h0 := by rw [← hh, Bd.state]; rfl
  have N0 := Fr.nil n0
  have pre0 : ∀ t, Steps p.tables e below (s₁.setTop (mkF m 0 #[.val (.ref o0), .val (.double lo), .second, .val (.double hi), .second, .val (.double wn), .second, .unset, .unset, .unset, .unset, .unset] [])) t → Steps p.tables e below (s₁.setTop (entryFrame m #[(.ref o0), (.double lo), (.double hi), (.double wn)] 12)) t := fun t k => castTop (ef_7_RDDD m o0 lo hi wn) k
  obtain ⟨cq1, q1, q1'⟩ := E_o0.cell
  obtain ⟨_, _, ⟨T1, L1, k1, n1⟩, -, X1, ⟨Lc1, hQ1, l1, y1, z1⟩, st1⟩ := X0.privateBack hx (y := (⟨"com/example/hedgeway/hedgeway/routing/Lambdas", "firstAbove", "(D)I"⟩ : MethodName)) hown (mvT hZ (hw _ (List.mem_of_getElem? (i := 46) rfl))) (mvT hZ (hw _ (List.mem_of_getElem? (i := 47) rfl))) (mvT hZ (own_selp (by decide) (hw _ (List.mem_of_getElem? (i := 6) rfl)) (hw _ (List.mem_of_getElem? (i := 48) rfl)) (hw _ (List.mem_of_getElem? (i := 47) rfl)))) (Cond.privateMethod_at (mvP hZ (hw _ (List.mem_of_getElem? (i := 48) rfl)) (args := #[]))) (mvT hZ (hw _ (List.mem_of_getElem? (i := 49) rfl))) (by decide) (backOf (W := 0) (fab l Z a0 hw [] o0 s0 kA eb x0 x1 x2 lo h0 n0 Z0 F_grid_o0 F_errorBound_o0 E_o0 V_s0 hd33_5_5_2 hd49_5_5_2 hd33_1_5_5_2 hd49_1_5_5_2) hZ (hw _ (List.mem_of_getElem? (i := 49) rfl)) (hw _ (List.mem_of_getElem? (i := 3) rfl)) (by decide) (by decide)) (g := (mkF m 2 #[.val (.ref o0), .val (.double lo), .second, .val (.double hi), .second, .val (.double wn), .second, .unset, .unset, .unset, .unset, .unset] [(.double lo), (.ref o0)])) rfl (by rw [hml]; rfl) (Steps.refl _) (a := o0) (by rw [e0]; exact q1) q1' (argsL := [(.double lo)]) (rest := []) (lenOf pd_4 rfl) rfl (by show 2 * 0 + _ ≤ _; exact Nat.le_of_eq rfl) (hb hby d7_2) (fun _ _ => ⟨rfl, e0, (by decide : 0 + 0 ≤ _), (by decide : 0 + 0 ≤ _)⟩)
  dsimp only [Pt.U, Pt.locs, Pt.cells, Pt.slots] at X1 l1 y1 z1 st1 hQ1
  subst l1 y1 z1
  obtain ⟨rfl, N1q, eh1⟩ := hQ1
  have N1 := Fr.app N0 N1q
  have e1 : T1.heap = h0 := eh1
  obtain ⟨cq2, q2, q2'⟩ := E_o0.cell
  obtain ⟨_, _, ⟨T2, L2, k2, n2⟩, -, X2, ⟨Lc2, hQ2, l2, y2, z2⟩, st2⟩ := X1.privateBack hx (y := (⟨"com/example/hedgeway/hedgeway/routing/Lambdas", "firstAtLeast", "(D)I"⟩ : MethodName)) hown (mvT hZ (hw _ (List.mem_of_getElem? (i := 57) rfl))) (mvT hZ (hw _ (List.mem_of_getElem? (i := 58) rfl))) (mvT hZ (own_selp (by decide) (hw _ (List.mem_of_getElem? (i := 6) rfl)) (hw _ (List.mem_of_getElem? (i := 59) rfl)) (hw _ (List.mem_of_getElem? (i := 58) rfl)))) (Cond.privateMethod_at (mvP hZ (hw _ (List.mem_of_getElem? (i := 59) rfl)) (args := #[]))) (mvT hZ (hw _ (List.mem_of_getElem? (i := 60) rfl))) (by decide) (backOf (W := 0) (falhi l Z a0 hw [] o0 s0 kA eb x0 x1 x2 hi h0 n0 Z0 F_grid_o0 F_errorBound_o0 E_o0 V_s0 hd33_5_5_9 hd33_1_5_5_9) hZ (hw _ (List.mem_of_getElem? (i := 60) rfl)) (hw _ (List.mem_of_getElem? (i := 3) rfl)) (by decide) (by decide)) (g := (mkF m 9 #[.val (.ref o0), .val (.double lo), .second, .val (.double hi), .second, .val (.double wn), .second, .val (.int (0 : Int32)), .unset, .unset, .unset, .unset] [(.double hi), (.ref o0)])) rfl (by rw [hml]; rfl) (Steps.refl _) (a := o0) (by rw [e1]; exact q2) q2' (argsL := [(.double hi)]) (rest := []) (lenOf pd_4 rfl) rfl (by show 2 * 0 + _ ≤ _; exact Nat.le_of_eq rfl) (hb hby d7_9) (fun _ _ => ⟨rfl, e1, (by decide : 0 + 0 ≤ _), (by decide : 0 + 0 ≤ _)⟩)
  dsimp only [Pt.U, Pt.locs, Pt.cells, Pt.slots] at X2 l2 y2 z2 st2 hQ2
  subst l2 y2 z2
  obtain ⟨rfl, N2q, eh2⟩ := hQ2
  have N2 := Fr.app N1 N2q
  have e2 : T2.heap = h0 := eh2
  obtain ⟨T3, X3, e3, st3⟩ := getF X2 hx hZ hown (host := "") (Or.inl (hw _ (List.mem_of_getElem? (i := 22) rfl))) Via.refl e2 F_grid_o0 (g := (mkF m 30 #[.val (.ref o0), .val (.double lo), .second, .val (.double hi), .second, .val (.double wn), .second, .val (.int (0 : Int32)), .val (.int (2 : Int32)), .unset, .unset, .unset] [(.ref o0), (.double wn)])) rfl rfl (hb hby d7_30)
  obtain ⟨cq4, Arq4, -, Sq4, -, Hq4, -⟩ := id V_s0
  obtain ⟨T5, X5, e5, st5⟩ := natS X3 hx hZ (y := (⟨"java/lang/Math", "max", "(DD)D"⟩ : MethodName)) hown (hw _ (List.mem_of_getElem? (i := 61) rfl)) (hw _ (List.mem_of_getElem? (i := 62) rfl)) (hw _ (List.mem_of_getElem? (i := 63) rfl)) (hw _ (List.mem_of_getElem? (i := 64) rfl)) (by decide) e3 (W := 0) (F := fun a' => a' = #[(.double wn), (.double x0)] ∧ Jvm.Free.Fl.NoNaN64 wn ∧ Jvm.Free.Fl.NoNaN64 x0) (val := .double (Native.java_lang_Math.nans.pick64 true wn x0)) (val' := .double um) (fun c4 => Jvm.Free.Fl.Abs.maxD_pays wn x0 c4 (by decide) (by decide)) (g := (mkF m 36 #[.val (.ref o0), .val (.double lo), .second, .val (.double hi), .second, .val (.double wn), .second, .val (.int (0 : Int32)), .val (.int (2 : Int32)), .unset, .unset, .unset] [(.double x0), (.double wn)])) rfl (by rw [hml]; rfl) (argsL := [(.double wn), (.double x0)]) (rest := []) (lenOf pd_5 rfl) rfl (by show 2 * 0 + _ ≤ _; exact Nat.le_of_eq rfl) (hb hby d7_36) (by decide) (by decide) ⟨rfl, nna36, nnb36⟩ (congrArg Value.double hq36)
  obtain ⟨T6, X6, e6, st6⟩ := getF X5 hx hZ hown (host := "") (Or.inl (hw _ (List.mem_of_getElem? (i := 22) rfl))) Via.refl e5 F_grid_o0 (g := (mkF m 40 #[.val (.ref o0), .val (.double lo), .second, .val (.double hi), .second, .val (.double wn), .second, .val (.int (0 : Int32)), .val (.int (2 : Int32)), .unset, .unset, .unset] [(.ref o0), (.double um)])) rfl rfl (hb hby d7_40)
  obtain ⟨cq7, Arq7, -, Sq7, -, Hq7, -⟩ := id V_s0
  obtain ⟨T8, X8, e8, st8⟩ := natS X6 hx hZ (y := (⟨"java/lang/Math", "min", "(DD)D"⟩ : MethodName)) hown (hw _ (List.mem_of_getElem? (i := 65) rfl)) (hw _ (List.mem_of_getElem? (i := 66) rfl)) (hw _ (List.mem_of_getElem? (i := 63) rfl)) (hw _ (List.mem_of_getElem? (i := 67) rfl)) (by decide) e6 (W := 0) (F := fun a' => a' = #[(.double um), (.double x2)] ∧ Jvm.Free.Fl.NoNaN64 um ∧ Jvm.Free.Fl.NoNaN64 x2) (val := .double (Native.java_lang_Math.nans.pick64 false um x2)) (val' := .double x0) (fun c4 => Jvm.Free.Fl.Abs.minD_pays um x2 c4 (by decide) (by decide)) (g := (mkF m 46 #[.val (.ref o0), .val (.double lo), .second, .val (.double hi), .second, .val (.double wn), .second, .val (.int (0 : Int32)), .val (.int (2 : Int32)), .unset, .unset, .unset] [(.double x2), (.double um)])) rfl (by rw [hml]; rfl) (argsL := [(.double um), (.double x2)]) (rest := []) (lenOf pd_5 rfl) rfl (by show 2 * 0 + _ ≤ _; exact Nat.le_of_eq rfl) (hb hby d7_46) (by decide) (by decide) ⟨rfl, nna46, nnb46⟩ (congrArg Value.double hmin)
  obtain ⟨cq9, q9, q9'⟩ := E_o0.cell
  obtain ⟨_, _, ⟨T9, L9, k9, n9⟩, -, X9, ⟨Lc9, hQ9, l9, y9, z9⟩, st9⟩ := X8.privateBack hx (y := (⟨"com/example/hedgeway/hedgeway/routing/Lambdas", "firstAtLeast", "(D)I"⟩ : MethodName)) hown (mvT hZ (hw _ (List.mem_of_getElem? (i := 57) rfl))) (mvT hZ (hw _ (List.mem_of_getElem? (i := 58) rfl))) (mvT hZ (own_selp (by decide) (hw _ (List.mem_of_getElem? (i := 6) rfl)) (hw _ (List.mem_of_getElem? (i := 59) rfl)) (hw _ (List.mem_of_getElem? (i := 58) rfl)))) (Cond.privateMethod_at (mvP hZ (hw _ (List.mem_of_getElem? (i := 59) rfl)) (args := #[]))) (mvT hZ (hw _ (List.mem_of_getElem? (i := 60) rfl))) (by decide) (backOf (W := 0) (fal0 l Z a0 hw [] o0 s0 kA eb x0 x1 x2 h0 n0 Z0 F_grid_o0 F_errorBound_o0 E_o0 V_s0 hd33_5_5_54 hd49_5_5_54 hd33_1_5_5_54 hd49_1_5_5_54 hd2_1_64_5_5_54 hd2_1_70_5_5_54) hZ (hw _ (List.mem_of_getElem? (i := 60) rfl)) (hw _ (List.mem_of_getElem? (i := 3) rfl)) (by decide) (by decide)) (g := (mkF m 54 #[.val (.ref o0), .val (.double lo), .second, .val (.double hi), .second, .val (.double wn), .second, .val (.int (0 : Int32)), .val (.int (2 : Int32)), .val (.double x0), .second, .unset] [(.double x0), (.ref o0)])) rfl (by rw [hml]; rfl) (Steps.refl _) (a := o0) (by rw [e8]; exact q9) q9' (argsL := [(.double x0)]) (rest := []) (lenOf pd_4 rfl) rfl (by show 2 * 0 + _ ≤ _; exact Nat.le_of_eq rfl) (hb hby d7_54) (fun _ _ => ⟨rfl, e8, (by decide : 0 + 0 ≤ _), (by decide : 0 + 0 ≤ _)⟩)
  dsimp only [Pt.U, Pt.locs, Pt.cells, Pt.slots] at X9 l9 y9 z9 st9 hQ9
  subst l9 y9 z9
  obtain ⟨rfl, N9q, eh9⟩ := hQ9
  have N9 := Fr.app N2 N9q
  have e9 : T9.heap = h0 := eh9
  obtain ⟨T10, X10, e10, st10⟩ := getF X9 hx hZ hown (host := "") (Or.inl (hw _ (List.mem_of_getElem? (i := 22) rfl))) Via.refl e9 F_grid_o0 (g := (mkF m 96 #[.val (.ref o0), .val (.double lo), .second, .val (.double hi), .second, .val (.double wn), .second, .val (.int (0 : Int32)), .val (.int (2 : Int32)), .val (.double x0), .second, .val (.int (0 : Int32))] [(.ref o0)])) rfl rfl (hb hby d7_96)
  obtain ⟨cq11, Arq11, -, Sq11, -, Hq11, -⟩ := id V_s0
  obtain ⟨fs, hr, hrun, hended, hW, hsame⟩ := X10.leave (v := some (.double x0)) (fun h => by rw [Bd.returns] at h; cases h)
  refine ⟨_, _, pre0 _ ?_, hrun, hended, _, _, rfl, ?_, ⟨_, rfl⟩, hW, hsame.mono (by decide) (by decide)⟩
  · show Steps p.tables e below (s₁.setTop (mkF m 0 #[.val (.ref o0), .val (.double lo), .second, .val (.double hi), .second, .val (.double wn), .second, .unset, .unset, .unset, .unset, .unset] [])) _
    refine XS.aloadN X0.here hx rfl (hb hby d7_0) rfl rfl ?_
    show Steps p.tables e below (s₁.setTop (mkF m 1 #[.val (.ref o0), .val (.double lo), .second, .val (.double hi), .second, .val (.double wn), .second, .unset, .unset, .unset, .unset, .unset] [(.ref o0)])) _
    refine XS.dloadN X0.here hx rfl (hb hby d7_1) rfl ?_
    show Steps p.tables e below (s₁.setTop (mkF m 2 #[.val (.ref o0), .val (.double lo), .second, .val (.double hi), .second, .val (.double wn), .second, .unset, .unset, .unset, .unset, .unset] [(.double lo), (.ref o0)])) _
    refine st1.trans ?_
    show Steps p.tables e below (T1.setTop (mkF m 5 #[.val (.ref o0), .val (.double lo), .second, .val (.double hi), .second, .val (.double wn), .second, .unset, .unset, .unset, .unset, .unset] [(.int (0 : Int32))])) _
    refine XS.istore X1.here hx rfl (hb hby d7_5) rfl (l' := #[.val (.ref o0), .val (.double lo), .second, .val (.double hi), .second, .val (.double wn), .second, .val (.int (0 : Int32)), .unset, .unset, .unset, .unset]) rfl ?_
    show Steps p.tables e below (T1.setTop (mkF m 7 #[.val (.ref o0), .val (.double lo), .second, .val (.double hi), .second, .val (.double wn), .second, .val (.int (0 : Int32)), .unset, .unset, .unset, .unset] [])) _
    refine XS.aloadN X1.here hx rfl (hb hby d7_7) rfl rfl ?_
    show Steps p.tables e below (T1.setTop (mkF m 8 #[.val (.ref o0), .val (.double lo), .second, .val (.double hi), .second, .val (.double wn), .second, .val (.int (0 : Int32)), .unset, .unset, .unset, .unset] [(.ref o0)])) _
    refine XS.dloadN X1.here hx rfl (hb hby d7_8) rfl ?_
    show Steps p.tables e below (T1.setTop (mkF m 9 #[.val (.ref o0), .val (.double lo), .second, .val (.double hi), .second, .val (.double wn), .second, .val (.int (0 : Int32)), .unset, .unset, .unset, .unset] [(.double hi), (.ref o0)])) _
    refine st2.trans ?_
    show Steps p.tables e below (T2.setTop (mkF m 12 #[.val (.ref o0), .val (.double lo), .second, .val (.double hi), .second, .val (.double wn), .second, .val (.int (0 : Int32)), .unset, .unset, .unset, .unset] [(.int (3 : Int32))])) _
    refine XS.iconst X2.here hx rfl (hb hby d7_12) ?_
    show Steps p.tables e below (T2.setTop (mkF m 13 #[.val (.ref o0), .val (.double lo), .second, .val (.double hi), .second, .val (.double wn), .second, .val (.int (0 : Int32)), .unset, .unset, .unset, .unset] [(.int (1 : Int32)), (.int (3 : Int32))])) _
    refine XS.isub X2.here hx rfl (hb hby d7_13) rfl ?_
    show Steps p.tables e below (T2.setTop (mkF m 14 #[.val (.ref o0), .val (.double lo), .second, .val (.double hi), .second, .val (.double wn), .second, .val (.int (0 : Int32)), .unset, .unset, .unset, .unset] [(.int ((3 : Int32) - (1 : Int32)))])) _
    rw [show ((3 : Int32) - (1 : Int32)) = (2 : Int32) by decide]
    show Steps p.tables e below (T2.setTop (mkF m 14 #[.val (.ref o0), .val (.double lo), .second, .val (.double hi), .second, .val (.double wn), .second, .val (.int (0 : Int32)), .unset, .unset, .unset, .unset] [(.int (2 : Int32))])) _
    refine XS.istore X2.here hx rfl (hb hby d7_14) rfl (l' := #[.val (.ref o0), .val (.double lo), .second, .val (.double hi), .second, .val (.double wn), .second, .val (.int (0 : Int32)), .val (.int (2 : Int32)), .unset, .unset, .unset]) rfl ?_
    show Steps p.tables e below (T2.setTop (mkF m 16 #[.val (.ref o0), .val (.double lo), .second, .val (.double hi), .second, .val (.double wn), .second, .val (.int (0 : Int32)), .val (.int (2 : Int32)), .unset, .unset, .unset] [])) _
    refine XS.iload X2.here hx rfl (hb hby d7_16) rfl ?_
    show Steps p.tables e below (T2.setTop (mkF m 18 #[.val (.ref o0), .val (.double lo), .second, .val (.double hi), .second, .val (.double wn), .second, .val (.int (0 : Int32)), .val (.int (2 : Int32)), .unset, .unset, .unset] [(.int (0 : Int32))])) _
    refine XS.iload X2.here hx rfl (hb hby d7_18) rfl ?_
    show Steps p.tables e below (T2.setTop (mkF m 20 #[.val (.ref o0), .val (.double lo), .second, .val (.double hi), .second, .val (.double wn), .second, .val (.int (0 : Int32)), .val (.int (2 : Int32)), .unset, .unset, .unset] [(.int (2 : Int32)), (.int (0 : Int32))])) _
    refine XS.icmpYes X2.here hx rfl (pc0 := 20) (pc' := 27) rfl (hb hby d7_20) rfl (flt (by decide : ¬ ((2 : Int32) < (0 : Int32)))).2.2.2 (by decide) (by decide) ?_
    show Steps p.tables e below (T2.setTop (mkF m 27 #[.val (.ref o0), .val (.double lo), .second, .val (.double hi), .second, .val (.double wn), .second, .val (.int (0 : Int32)), .val (.int (2 : Int32)), .unset, .unset, .unset] [])) _
    refine XS.dload X2.here hx rfl (hb hby d7_27) rfl ?_
    show Steps p.tables e below (T2.setTop (mkF m 29 #[.val (.ref o0), .val (.double lo), .second, .val (.double hi), .second, .val (.double wn), .second, .val (.int (0 : Int32)), .val (.int (2 : Int32)), .unset, .unset, .unset] [(.double wn)])) _
    refine XS.aloadN X2.here hx rfl (hb hby d7_29) rfl rfl ?_
    show Steps p.tables e below (T2.setTop (mkF m 30 #[.val (.ref o0), .val (.double lo), .second, .val (.double hi), .second, .val (.double wn), .second, .val (.int (0 : Int32)), .val (.int (2 : Int32)), .unset, .unset, .unset] [(.ref o0), (.double wn)])) _
    refine st3 _ ?_
    show Steps p.tables e below (T3.setTop (mkF m 33 #[.val (.ref o0), .val (.double lo), .second, .val (.double hi), .second, .val (.double wn), .second, .val (.int (0 : Int32)), .val (.int (2 : Int32)), .unset, .unset, .unset] [(.ref s0), (.double wn)])) _
    refine XS.iload X3.here hx rfl (hb hby d7_33) rfl ?_
    show Steps p.tables e below (T3.setTop (mkF m 35 #[.val (.ref o0), .val (.double lo), .second, .val (.double hi), .second, .val (.double wn), .second, .val (.int (0 : Int32)), .val (.int (2 : Int32)), .unset, .unset, .unset] [(.int (0 : Int32)), (.ref s0), (.double wn)])) _
    refine X3.daload hx (j := (0 : Int32)) (v := (.double x0)) (by rw [e3]; exact Arq4.1) (State.isArrayOf_alike hZ.alike Arq4.2.1) Arq4.2.2 (inb_of Sq4 ⟨by decide, by decide⟩) (Has.at Hq4 (inb_of Sq4 ⟨by decide, by decide⟩) rfl) (g := (mkF m 35 #[.val (.ref o0), .val (.double lo), .second, .val (.double hi), .second, .val (.double wn), .second, .val (.int (0 : Int32)), .val (.int (2 : Int32)), .unset, .unset, .unset] [(.int (0 : Int32)), (.ref s0), (.double wn)])) rfl rfl (hb hby d7_35) _ ?_
    show Steps p.tables e below (T3.setTop (mkF m 36 #[.val (.ref o0), .val (.double lo), .second, .val (.double hi), .second, .val (.double wn), .second, .val (.int (0 : Int32)), .val (.int (2 : Int32)), .unset, .unset, .unset] [(.double x0), (.double wn)])) _
    refine st5 _ ?_
    show Steps p.tables e below (T5.setTop (mkF m 39 #[.val (.ref o0), .val (.double lo), .second, .val (.double hi), .second, .val (.double wn), .second, .val (.int (0 : Int32)), .val (.int (2 : Int32)), .unset, .unset, .unset] [(.double um)])) _
    refine XS.aloadN X5.here hx rfl (hb hby d7_39) rfl rfl ?_
    show Steps p.tables e below (T5.setTop (mkF m 40 #[.val (.ref o0), .val (.double lo), .second, .val (.double hi), .second, .val (.double wn), .second, .val (.int (0 : Int32)), .val (.int (2 : Int32)), .unset, .unset, .unset] [(.ref o0), (.double um)])) _
    refine st6 _ ?_
    show Steps p.tables e below (T6.setTop (mkF m 43 #[.val (.ref o0), .val (.double lo), .second, .val (.double hi), .second, .val (.double wn), .second, .val (.int (0 : Int32)), .val (.int (2 : Int32)), .unset, .unset, .unset] [(.ref s0), (.double um)])) _
    refine XS.iload X6.here hx rfl (hb hby d7_43) rfl ?_
    show Steps p.tables e below (T6.setTop (mkF m 45 #[.val (.ref o0), .val (.double lo), .second, .val (.double hi), .second, .val (.double wn), .second, .val (.int (0 : Int32)), .val (.int (2 : Int32)), .unset, .unset, .unset] [(.int (2 : Int32)), (.ref s0), (.double um)])) _
    refine X6.daload hx (j := (2 : Int32)) (v := (.double x2)) (by rw [e6]; exact Arq7.1) (State.isArrayOf_alike hZ.alike Arq7.2.1) Arq7.2.2 (inb_of Sq7 ⟨by decide, by decide⟩) (Has.at Hq7 (inb_of Sq7 ⟨by decide, by decide⟩) rfl) (g := (mkF m 45 #[.val (.ref o0), .val (.double lo), .second, .val (.double hi), .second, .val (.double wn), .second, .val (.int (0 : Int32)), .val (.int (2 : Int32)), .unset, .unset, .unset] [(.int (2 : Int32)), (.ref s0), (.double um)])) rfl rfl (hb hby d7_45) _ ?_
    show Steps p.tables e below (T6.setTop (mkF m 46 #[.val (.ref o0), .val (.double lo), .second, .val (.double hi), .second, .val (.double wn), .second, .val (.int (0 : Int32)), .val (.int (2 : Int32)), .unset, .unset, .unset] [(.double x2), (.double um)])) _
    refine st8 _ ?_
    show Steps p.tables e below (T8.setTop (mkF m 49 #[.val (.ref o0), .val (.double lo), .second, .val (.double hi), .second, .val (.double wn), .second, .val (.int (0 : Int32)), .val (.int (2 : Int32)), .unset, .unset, .unset] [(.double x0)])) _
    refine XS.dstore X8.here hx rfl (hb hby d7_49) rfl (l' := #[.val (.ref o0), .val (.double lo), .second, .val (.double hi), .second, .val (.double wn), .second, .val (.int (0 : Int32)), .val (.int (2 : Int32)), .val (.double x0), .second, .unset]) rfl ?_
    show Steps p.tables e below (T8.setTop (mkF m 51 #[.val (.ref o0), .val (.double lo), .second, .val (.double hi), .second, .val (.double wn), .second, .val (.int (0 : Int32)), .val (.int (2 : Int32)), .val (.double x0), .second, .unset] [])) _
    refine XS.aloadN X8.here hx rfl (hb hby d7_51) rfl rfl ?_
    show Steps p.tables e below (T8.setTop (mkF m 52 #[.val (.ref o0), .val (.double lo), .second, .val (.double hi), .second, .val (.double wn), .second, .val (.int (0 : Int32)), .val (.int (2 : Int32)), .val (.double x0), .second, .unset] [(.ref o0)])) _
    refine XS.dload X8.here hx rfl (hb hby d7_52) rfl ?_
    show Steps p.tables e below (T8.setTop (mkF m 54 #[.val (.ref o0), .val (.double lo), .second, .val (.double hi), .second, .val (.double wn), .second, .val (.int (0 : Int32)), .val (.int (2 : Int32)), .val (.double x0), .second, .unset] [(.double x0), (.ref o0)])) _
    refine st9.trans ?_
    show Steps p.tables e below (T9.setTop (mkF m 57 #[.val (.ref o0), .val (.double lo), .second, .val (.double hi), .second, .val (.double wn), .second, .val (.int (0 : Int32)), .val (.int (2 : Int32)), .val (.double x0), .second, .unset] [(.int (0 : Int32))])) _
    refine XS.istore X9.here hx rfl (hb hby d7_57) rfl (l' := #[.val (.ref o0), .val (.double lo), .second, .val (.double hi), .second, .val (.double wn), .second, .val (.int (0 : Int32)), .val (.int (2 : Int32)), .val (.double x0), .second, .val (.int (0 : Int32))]) rfl ?_
    show Steps p.tables e below (T9.setTop (mkF m 59 #[.val (.ref o0), .val (.double lo), .second, .val (.double hi), .second, .val (.double wn), .second, .val (.int (0 : Int32)), .val (.int (2 : Int32)), .val (.double x0), .second, .val (.int (0 : Int32))] [])) _
    refine XS.iload X9.here hx rfl (hb hby d7_59) rfl ?_
    show Steps p.tables e below (T9.setTop (mkF m 61 #[.val (.ref o0), .val (.double lo), .second, .val (.double hi), .second, .val (.double wn), .second, .val (.int (0 : Int32)), .val (.int (2 : Int32)), .val (.double x0), .second, .val (.int (0 : Int32))] [(.int (0 : Int32))])) _
    refine XS.iload X9.here hx rfl (hb hby d7_61) rfl ?_
    show Steps p.tables e below (T9.setTop (mkF m 63 #[.val (.ref o0), .val (.double lo), .second, .val (.double hi), .second, .val (.double wn), .second, .val (.int (0 : Int32)), .val (.int (2 : Int32)), .val (.double x0), .second, .val (.int (0 : Int32))] [(.int (0 : Int32)), (.int (0 : Int32))])) _
    refine XS.icmpYes X9.here hx rfl (pc0 := 63) (pc' := 95) rfl (hb hby d7_63) rfl (flt (by decide : ¬ ((0 : Int32) < (0 : Int32)))).2.2.2 (by decide) (by decide) ?_
    show Steps p.tables e below (T9.setTop (mkF m 95 #[.val (.ref o0), .val (.double lo), .second, .val (.double hi), .second, .val (.double wn), .second, .val (.int (0 : Int32)), .val (.int (2 : Int32)), .val (.double x0), .second, .val (.int (0 : Int32))] [])) _
    refine XS.aloadN X9.here hx rfl (hb hby d7_95) rfl rfl ?_
    show Steps p.tables e below (T9.setTop (mkF m 96 #[.val (.ref o0), .val (.double lo), .second, .val (.double hi), .second, .val (.double wn), .second, .val (.int (0 : Int32)), .val (.int (2 : Int32)), .val (.double x0), .second, .val (.int (0 : Int32))] [(.ref o0)])) _
    refine st10 _ ?_
    show Steps p.tables e below (T10.setTop (mkF m 99 #[.val (.ref o0), .val (.double lo), .second, .val (.double hi), .second, .val (.double wn), .second, .val (.int (0 : Int32)), .val (.int (2 : Int32)), .val (.double x0), .second, .val (.int (0 : Int32))] [(.ref s0)])) _
    refine XS.iload X10.here hx rfl (hb hby d7_99) rfl ?_
    show Steps p.tables e below (T10.setTop (mkF m 101 #[.val (.ref o0), .val (.double lo), .second, .val (.double hi), .second, .val (.double wn), .second, .val (.int (0 : Int32)), .val (.int (2 : Int32)), .val (.double x0), .second, .val (.int (0 : Int32))] [(.int (0 : Int32)), (.ref s0)])) _
    refine X10.daload hx (j := (0 : Int32)) (v := (.double x0)) (by rw [e10]; exact Arq11.1) (State.isArrayOf_alike hZ.alike Arq11.2.1) Arq11.2.2 (inb_of Sq11 ⟨by decide, by decide⟩) (Has.at Hq11 (inb_of Sq11 ⟨by decide, by decide⟩) rfl) (g := (mkF m 101 #[.val (.ref o0), .val (.double lo), .second, .val (.double hi), .second, .val (.double wn), .second, .val (.int (0 : Int32)), .val (.int (2 : Int32)), .val (.double x0), .second, .val (.int (0 : Int32))] [(.int (0 : Int32)), (.ref s0)])) rfl rfl (hb hby d7_101) _ ?_
    show Steps p.tables e below (T10.setTop (mkF m 102 #[.val (.ref o0), .val (.double lo), .second, .val (.double hi), .second, .val (.double wn), .second, .val (.int (0 : Int32)), .val (.int (2 : Int32)), .val (.double x0), .second, .val (.int (0 : Int32))] [(.double x0)])) _
    exact retOut X10 hx Bd.returns rfl (Or.inr (Or.inr (Or.inl ⟨rfl, rfl, _, rfl⟩))) (hb hby d7_102) hr
  · show Q_nb0 Z o0 s0 kA eb x0 x1 x2 lo hi wn um h0 n0 _ T10.heap _
    rw [e10]
    exact ⟨rfl, N9, rfl⟩
theorem d6_0 : decode prog_29_method_5_code 0 = .ok (.aload_n 0, 1) := by decide +kernel
theorem d6_1 : decode prog_29_method_5_code 1 = .ok (.getfield 7, 3) := by decide +kernel
theorem d6_4 : decode prog_29_method_5_code 4 = .ok (.ifnonnull 10, 3) := by decide +kernel
theorem d6_14 : decode prog_29_method_5_code 14 = .ok (.aload_n 0, 1) := by decide +kernel
theorem d6_15 : decode prog_29_method_5_code 15 = .ok (.dload_n 1, 1) := by decide +kernel
theorem d6_16 : decode prog_29_method_5_code 16 = .ok (.dload_n 3, 1) := by decide +kernel
theorem d6_17 : decode prog_29_method_5_code 17 = .ok (.dload 5, 2) := by decide +kernel
theorem d6_19 : decode prog_29_method_5_code 19 = .ok (.invokevirtual 25, 3) := by decide +kernel
theorem pd_6 : parseMethodDescriptor "(DDD)D" = some ⟨[.double, .double, .double], some .double⟩ := by decide +kernel
theorem d6_22 : decode prog_29_method_5_code 22 = .ok (.dstore 7, 2) := by decide +kernel
theorem d6_24 : decode prog_29_method_5_code 24 = .ok (.dload 7, 2) := by decide +kernel
theorem d6_26 : decode prog_29_method_5_code 26 = .ok (.dreturn, 1) := by decide +kernel
theorem ef_6_RDDD (m : MethodId) (x0 : Addr) (x1 : UInt64) (x2 : UInt64) (x3 : UInt64) : entryFrame m #[(.ref x0), (.double x1), (.double x2), (.double x3)] 9 = mkF m 0 #[.val (.ref x0), .val (.double x1), .second, .val (.double x2), .second, .val (.double x3), .second, .unset, .unset] [] := by first | (simp [entryFrame, mkF, argsToLocals, Value.category]; done) | rfl
def Q_bt0 (Z : State) (o0 : Addr) (s0 : Addr) (kA : ClassId) (eb : UInt64) (x0 : UInt64) (x1 : UInt64) (x2 : UInt64) (lo : UInt64) (hi : UInt64) (wn : UInt64) (um : UInt64) (h0 : Heap) (n0 : Nat) (v : Option Value) (h : Heap) (L : List Loc) : Prop := v = some (.double x0) ∧ Fr n0 L ∧ h = h0
set_option maxRecDepth 65536 in
set_option maxHeartbeats 40000000 in
theorem bt0 (l : Launch) (Z : State) (a0 : Array Value) (hw : ∀ d ∈ tables_1, d.before a0 Z = true) (ws : List Jvm.Cond) (o0 : Addr) (s0 : Addr) (kA : ClassId) (eb : UInt64) (x0 : UInt64) (x1 : UInt64) (x2 : UInt64) (lo : UInt64) (hi : UInt64) (wn : UInt64) (um : UInt64) (h0 : Heap) (n0 : Nat) (Z0 : n0 ≤ h0.size) (F_grid_o0 : Fld Z h0 o0 "com/example/hedgeway/hedgeway/routing/Lambdas" "grid" "[D" (.ref s0)) (F_errorBound_o0 : Fld Z h0 o0 "com/example/hedgeway/hedgeway/routing/Lambdas" "errorBound" "D" (.double eb)) (E_o0 : Exa Z h0 o0 "com/example/hedgeway/hedgeway/routing/Lambdas") (V_s0 : Arv Z h0 s0 kA .double (3 : Int32) [(.double x0), (.double x1), (.double x2)] (.double (0 : UInt64))) (hmin_19 : (Native.java_lang_Math.nans.pick64 false um x2) = x0) (hd33_5_5_2_19 : (cmpValue (FP.dcmp x1 lo) .g) = (1 : Int32)) (hd49_5_5_2_19 : (cmpValue (FP.dcmp x1 lo) .l) = (1 : Int32)) (hd33_1_5_5_2_19 : (cmpValue (FP.dcmp x0 lo) .g) = (1 : Int32)) (hd49_1_5_5_2_19 : (cmpValue (FP.dcmp x0 lo) .l) = (1 : Int32)) (hd33_5_5_9_19 : (cmpValue (FP.dcmp x1 hi) .g) = (-1 : Int32)) (hd33_1_5_5_9_19 : (cmpValue (FP.dcmp x2 hi) .g) = (-1 : Int32)) (nna36_19 : Jvm.Free.Fl.NoNaN64 wn) (nnb36_19 : Jvm.Free.Fl.NoNaN64 x0) (hq36_19 : (Native.java_lang_Math.nans.pick64 true wn x0) = um) (nna46_19 : Jvm.Free.Fl.NoNaN64 um) (nnb46_19 : Jvm.Free.Fl.NoNaN64 x2) (hd33_5_5_54_19 : (cmpValue (FP.dcmp x1 x0) .g) = (1 : Int32)) (hd49_5_5_54_19 : (cmpValue (FP.dcmp x1 x0) .l) = (1 : Int32)) (hd33_1_5_5_54_19 : (cmpValue (FP.dcmp x0 x0) .g) = (0 : Int32)) (hd49_1_5_5_54_19 : (cmpValue (FP.dcmp x0 x0) .l) = (0 : Int32)) (hd2_1_64_5_5_54_19 : (cmpValue (FP.dcmp x0 x0) .l) = (0 : Int32)) (hd2_1_70_5_5_54_19 : (cmpValue (FP.dcmp x0 x0) .l) = (0 : Int32)) :
    MetFree l (⟨"com/example/hedgeway/hedgeway/routing/Lambdas", "between", "(DDD)D"⟩ : MethodName) (head1 (Jvm.Cond.code (⟨"com/example/hedgeway/hedgeway/routing/Lambdas", "between", "(DDD)D"⟩ : MethodName) prog_29_method_5_code 9 (some .double) :: ws) ({ frames := 6, cells := 0, slots := 0, locals := 105 } : Room)) (fun a U => a = #[(.ref o0), (.double lo), (.double hi), (.double wn)] ∧ Z.Warmed39 U.vm ∧ U.heap = h0) (fun _ _ _ _ _ => True) (fun _ U o U' => ∃ v L, o = .returned v ∧ Q_bt0 Z o0 s0 kA eb x0 x1 x2 lo hi wn um h0 n0 v U'.heap L ∧ FrameEnd U o U' L ({ frames := 6, cells := 0, slots := 0, locals := 105 } : Room).cells ({ frames := 6, cells := 0, slots := 0, locals := 105 } : Room).slots) := by
  refine MetFree.of_bodySF (plainFor_of_name pn_com_example_hedgeway_hedgeway_routing_Lambdas) hisR ?_
  intro p e s m args below meth c s₁ Bd hml0 hP hK
  obtain ⟨rfl, hZ, hh⟩ := hP
  have hx := Bd.exec
  have hby := Bd.bytes
  have hml : c.maxLocals = 9 := hml0
  have hown : s.vm.findClass "com/example/hedgeway/hedgeway/routing/Lambdas" = some m.cls := findClass_of_methodNamed Bd.named
  have hnm := (name_of_methodNamed Bd.named Bd.method).1
  have X0 : Stand p l e ({ frames := 6, cells := 0, slots := 0, locals := 105 } : Room) s m #[(.ref o0), (.double lo), (.double hi), (.double wn)] below meth c s₁ [] 0 0 := Stand.of_body Bd
  have e0 : s₁.heap = h0 := by rw [← hh, Bd.state]; rfl
  have N0 := Fr.nil n0
  have pre0 : ∀ t, Steps p.tables e below (s₁.setTop (mkF m 0 #[.val (.ref o0), .val (.double lo), .second, .val (.double hi), .second, .val (.double wn), .second, .unset, .unset] [])) t → Steps p.tables e below (s₁.setTop (entryFrame m #[(.ref o0), (.double lo), (.double hi), (.double wn)] 9)) t := fun t k => castTop (ef_6_RDDD m o0 lo hi wn) k
  obtain ⟨T1, X1, e1, st1⟩ := getF X0 hx hZ hown (host := "") (Or.inl (hw _ (List.mem_of_getElem? (i := 22) rfl))) Via.refl e0 F_grid_o0 (g := (mkF m 1 #[.val (.ref o0), .val (.double lo), .second, .val (.double hi), .second, .val (.double wn), .second, .unset, .unset] [(.ref o0)])) rfl rfl (hb hby d6_1)
  obtain ⟨cq2, q2, q2'⟩ := E_o0.cell
  obtain ⟨_, _, ⟨T2, L2, k2, n2⟩, -, X2, ⟨Lc2, hQ2, l2, y2, z2⟩, st2⟩ := X1.privateBack hx (y := (⟨"com/example/hedgeway/hedgeway/routing/Lambdas", "nearestBetween", "(DDD)D"⟩ : MethodName)) hown (mvT hZ (hw _ (List.mem_of_getElem? (i := 42) rfl))) (mvT hZ (hw _ (List.mem_of_getElem? (i := 43) rfl))) (mvT hZ (own_selp (by decide) (hw _ (List.mem_of_getElem? (i := 6) rfl)) (hw _ (List.mem_of_getElem? (i := 44) rfl)) (hw _ (List.mem_of_getElem? (i := 43) rfl)))) (Cond.privateMethod_at (mvP hZ (hw _ (List.mem_of_getElem? (i := 44) rfl)) (args := #[]))) (mvT hZ (hw _ (List.mem_of_getElem? (i := 45) rfl))) (by decide) (backOf (W := 0) (nb0 l Z a0 hw [] o0 s0 kA eb x0 x1 x2 lo hi wn um h0 n0 Z0 F_grid_o0 F_errorBound_o0 E_o0 V_s0 hmin_19 hd33_5_5_2_19 hd49_5_5_2_19 hd33_1_5_5_2_19 hd49_1_5_5_2_19 hd33_5_5_9_19 hd33_1_5_5_9_19 nna36_19 nnb36_19 hq36_19 nna46_19 nnb46_19 hd33_5_5_54_19 hd49_5_5_54_19 hd33_1_5_5_54_19 hd49_1_5_5_54_19 hd2_1_64_5_5_54_19 hd2_1_70_5_5_54_19) hZ (hw _ (List.mem_of_getElem? (i := 45) rfl)) (hw _ (List.mem_of_getElem? (i := 3) rfl)) (by decide) (by decide)) (g := (mkF m 19 #[.val (.ref o0), .val (.double lo), .second, .val (.double hi), .second, .val (.double wn), .second, .unset, .unset] [(.double wn), (.double hi), (.double lo), (.ref o0)])) rfl (by rw [hml]; rfl) (Steps.refl _) (a := o0) (by rw [e1]; exact q2) q2' (argsL := [(.double lo), (.double hi), (.double wn)]) (rest := []) (lenOf pd_6 rfl) rfl (by show 2 * 0 + _ ≤ _; exact Nat.le_of_eq rfl) (hb hby d6_19) (fun _ _ => ⟨rfl, e1, (by decide : 0 + 0 ≤ _), (by decide : 0 + 0 ≤ _)⟩)
  dsimp only [Pt.U, Pt.locs, Pt.cells, Pt.slots] at X2 l2 y2 z2 st2 hQ2
  subst l2 y2 z2
  obtain ⟨rfl, N2q, eh2⟩ := hQ2
  have N2 := Fr.app N0 N2q
  have e2 : T2.heap = h0 := eh2
  obtain ⟨fs, hr, hrun, hended, hW, hsame⟩ := X2.leave (v := some (.double x0)) (fun h => by rw [Bd.returns] at h; cases h)
  refine ⟨_, _, pre0 _ ?_, hrun, hended, _, _, rfl, ?_, ⟨_, rfl⟩, hW, hsame.mono (by decide) (by decide)⟩
  · show Steps p.tables e below (s₁.setTop (mkF m 0 #[.val (.ref o0), .val (.double lo), .second, .val (.double hi), .second, .val (.double wn), .second, .unset, .unset] [])) _
    refine XS.aloadN X0.here hx rfl (hb hby d6_0) rfl rfl ?_
    show Steps p.tables e below (s₁.setTop (mkF m 1 #[.val (.ref o0), .val (.double lo), .second, .val (.double hi), .second, .val (.double wn), .second, .unset, .unset] [(.ref o0)])) _
    refine st1 _ ?_
    show Steps p.tables e below (T1.setTop (mkF m 4 #[.val (.ref o0), .val (.double lo), .second, .val (.double hi), .second, .val (.double wn), .second, .unset, .unset] [(.ref s0)])) _
    refine XS.ifnonnullYes X1.here hx rfl (pc0 := 4) (pc' := 14) rfl (hb hby d6_4) rfl (by decide) (by decide) ?_
    show Steps p.tables e below (T1.setTop (mkF m 14 #[.val (.ref o0), .val (.double lo), .second, .val (.double hi), .second, .val (.double wn), .second, .unset, .unset] [])) _
    refine XS.aloadN X1.here hx rfl (hb hby d6_14) rfl rfl ?_
    show Steps p.tables e below (T1.setTop (mkF m 15 #[.val (.ref o0), .val (.double lo), .second, .val (.double hi), .second, .val (.double wn), .second, .unset, .unset] [(.ref o0)])) _
    refine XS.dloadN X1.here hx rfl (hb hby d6_15) rfl ?_
    show Steps p.tables e below (T1.setTop (mkF m 16 #[.val (.ref o0), .val (.double lo), .second, .val (.double hi), .second, .val (.double wn), .second, .unset, .unset] [(.double lo), (.ref o0)])) _
    refine XS.dloadN X1.here hx rfl (hb hby d6_16) rfl ?_
    show Steps p.tables e below (T1.setTop (mkF m 17 #[.val (.ref o0), .val (.double lo), .second, .val (.double hi), .second, .val (.double wn), .second, .unset, .unset] [(.double hi), (.double lo), (.ref o0)])) _
    refine XS.dload X1.here hx rfl (hb hby d6_17) rfl ?_
    show Steps p.tables e below (T1.setTop (mkF m 19 #[.val (.ref o0), .val (.double lo), .second, .val (.double hi), .second, .val (.double wn), .second, .unset, .unset] [(.double wn), (.double hi), (.double lo), (.ref o0)])) _
    refine st2.trans ?_
    show Steps p.tables e below (T2.setTop (mkF m 22 #[.val (.ref o0), .val (.double lo), .second, .val (.double hi), .second, .val (.double wn), .second, .unset, .unset] [(.double x0)])) _
    refine XS.dstore X2.here hx rfl (hb hby d6_22) rfl (l' := #[.val (.ref o0), .val (.double lo), .second, .val (.double hi), .second, .val (.double wn), .second, .val (.double x0), .second]) rfl ?_
    show Steps p.tables e below (T2.setTop (mkF m 24 #[.val (.ref o0), .val (.double lo), .second, .val (.double hi), .second, .val (.double wn), .second, .val (.double x0), .second] [])) _
    refine XS.dload X2.here hx rfl (hb hby d6_24) rfl ?_
    show Steps p.tables e below (T2.setTop (mkF m 26 #[.val (.ref o0), .val (.double lo), .second, .val (.double hi), .second, .val (.double wn), .second, .val (.double x0), .second] [(.double x0)])) _
    exact retOut X2 hx Bd.returns rfl (Or.inr (Or.inr (Or.inl ⟨rfl, rfl, _, rfl⟩))) (hb hby d6_26) hr
  · show Q_bt0 Z o0 s0 kA eb x0 x1 x2 lo hi wn um h0 n0 _ T2.heap _
    rw [e2]
    exact ⟨rfl, N2, rfl⟩
theorem d7_66 : decode prog_29_method_6_code 66 = .ok (.aload_n 0, 1) := by decide +kernel
theorem d7_67 : decode prog_29_method_6_code 67 = .ok (.getfield 7, 3) := by decide +kernel
theorem d7_70 : decode prog_29_method_6_code 70 = .ok (.iload 11, 2) := by decide +kernel
theorem d7_72 : decode prog_29_method_6_code 72 = .ok (.daload, 1) := by decide +kernel
theorem d7_73 : decode prog_29_method_6_code 73 = .ok (.dload 9, 2) := by decide +kernel
theorem d7_75 : decode prog_29_method_6_code 75 = .ok (.ddiv, 1) := by decide +kernel
theorem d7_76 : decode prog_29_method_6_code 76 = .ok (.dload 9, 2) := by decide +kernel
theorem d7_78 : decode prog_29_method_6_code 78 = .ok (.aload_n 0, 1) := by decide +kernel
theorem d7_79 : decode prog_29_method_6_code 79 = .ok (.getfield 7, 3) := by decide +kernel
theorem d7_82 : decode prog_29_method_6_code 82 = .ok (.iload 11, 2) := by decide +kernel
theorem d7_84 : decode prog_29_method_6_code 84 = .ok (.iconst 1, 1) := by decide +kernel
theorem d7_85 : decode prog_29_method_6_code 85 = .ok (.isub, 1) := by decide +kernel
theorem d7_86 : decode prog_29_method_6_code 86 = .ok (.daload, 1) := by decide +kernel
theorem d7_87 : decode prog_29_method_6_code 87 = .ok (.ddiv, 1) := by decide +kernel
theorem d7_88 : decode prog_29_method_6_code 88 = .ok (.dcmp .l, 1) := by decide +kernel
theorem d7_89 : decode prog_29_method_6_code 89 = .ok (.ifCond .le 6, 3) := by decide +kernel
def Q_nb1 (Z : State) (o0 : Addr) (s0 : Addr) (kA : ClassId) (eb : UInt64) (x0 : UInt64) (x1 : UInt64) (x2 : UInt64) (lo : UInt64) (hi : UInt64) (wn : UInt64) (um : UInt64) (h0 : Heap) (n0 : Nat) (v : Option Value) (h : Heap) (L : List Loc) : Prop := v = some (.double x1) ∧ Fr n0 L ∧ h = h0
set_option maxRecDepth 65536 in
set_option maxHeartbeats 40000000 in
theorem nb1 (l : Launch) (Z : State) (a0 : Array Value) (hw : ∀ d ∈ tables_1, d.before a0 Z = true) (ws : List Jvm.Cond) (o0 : Addr) (s0 : Addr) (kA : ClassId) (eb : UInt64) (x0 : UInt64) (x1 : UInt64) (x2 : UInt64) (lo : UInt64) (hi : UInt64) (wn : UInt64) (um : UInt64) (h0 : Heap) (n0 : Nat) (Z0 : n0 ≤ h0.size) (F_grid_o0 : Fld Z h0 o0 "com/example/hedgeway/hedgeway/routing/Lambdas" "grid" "[D" (.ref s0)) (F_errorBound_o0 : Fld Z h0 o0 "com/example/hedgeway/hedgeway/routing/Lambdas" "errorBound" "D" (.double eb)) (E_o0 : Exa Z h0 o0 "com/example/hedgeway/hedgeway/routing/Lambdas") (V_s0 : Arv Z h0 s0 kA .double (3 : Int32) [(.double x0), (.double x1), (.double x2)] (.double (0 : UInt64))) (hmin : (Native.java_lang_Math.nans.pick64 false um x2) = x1) (hd33_5_5_2 : (cmpValue (FP.dcmp x1 lo) .g) = (1 : Int32)) (hd49_5_5_2 : (cmpValue (FP.dcmp x1 lo) .l) = (1 : Int32)) (hd33_1_5_5_2 : (cmpValue (FP.dcmp x0 lo) .g) = (1 : Int32)) (hd49_1_5_5_2 : (cmpValue (FP.dcmp x0 lo) .l) = (1 : Int32)) (hd33_5_5_9 : (cmpValue (FP.dcmp x1 hi) .g) = (-1 : Int32)) (hd33_1_5_5_9 : (cmpValue (FP.dcmp x2 hi) .g) = (-1 : Int32)) (nna36 : Jvm.Free.Fl.NoNaN64 wn) (nnb36 : Jvm.Free.Fl.NoNaN64 x0) (hq36 : (Native.java_lang_Math.nans.pick64 true wn x0) = um) (nna46 : Jvm.Free.Fl.NoNaN64 um) (nnb46 : Jvm.Free.Fl.NoNaN64 x2) (hd33_5_5_54 : (cmpValue (FP.dcmp x1 x1) .g) = (0 : Int32)) (hd49_5_5_54 : (cmpValue (FP.dcmp x1 x1) .l) = (0 : Int32)) (hd2_1_64_5_5_54 : (cmpValue (FP.dcmp x1 x1) .l) = (0 : Int32)) (hd2_1_70_5_5_54 : (cmpValue (FP.dcmp x1 x1) .l) = (0 : Int32)) (nn75 : Jvm.Free.Fl.NoNaN64 (FP.ddiv x1 x1)) (nn87 : Jvm.Free.Fl.NoNaN64 (FP.ddiv x1 x0)) (hc89 : ¬ ((0 : Int32) < (cmpValue (FP.dcmp (FP.ddiv x1 x1) (FP.ddiv x1 x0)) .l))) :
    MetFree l (⟨"com/example/hedgeway/hedgeway/routing/Lambdas", "nearestBetween", "(DDD)D"⟩ : MethodName) (head1 (Jvm.Cond.code (⟨"com/example/hedgeway/hedgeway/routing/Lambdas", "nearestBetween", "(DDD)D"⟩ : MethodName) prog_29_method_6_code 12 (some .double) :: ws) ({ frames := 5, cells := 0, slots := 0, locals := 82 } : Room)) (fun a U => a = #[(.ref o0), (.double lo), (.double hi), (.double wn)] ∧ Z.Warmed39 U.vm ∧ U.heap = h0) (fun _ _ _ _ _ => True) (fun _ U o U' => ∃ v L, o = .returned v ∧ Q_nb1 Z o0 s0 kA eb x0 x1 x2 lo hi wn um h0 n0 v U'.heap L ∧ FrameEnd U o U' L ({ frames := 5, cells := 0, slots := 0, locals := 82 } : Room).cells ({ frames := 5, cells := 0, slots := 0, locals := 82 } : Room).slots) := by
  refine MetFree.of_bodySF (plainFor_of_name pn_com_example_hedgeway_hedgeway_routing_Lambdas) hisR ?_
  intro p e s m args below meth c s₁ Bd hml0 hP hK
  obtain ⟨rfl, hZ, hh⟩ := hP
  have hx := Bd.exec
  have hby := Bd.bytes
  have hml : c.maxLocals = 12 := hml0
  have hown : s.vm.findClass "com/example/hedgeway/hedgeway/routing/Lambdas" = some m.cls := findClass_of_methodNamed Bd.named
  have hnm := (name_of_methodNamed Bd.named Bd.method).1
  have X0 : Stand p l e ({ frames := 5, cells := 0, slots := 0, locals := 82 } : Room) s m #[(.ref o0), (.double lo), (.double hi), (.double wn)] below meth c s₁ [] 0 0 := Stand.of_body Bd
  have e0 : s₁.heap = h0 := by rw [← hh, Bd.state]; rfl
  have N0 := Fr.nil n0
  have pre0 : ∀ t, Steps p.tables e below (s₁.setTop (mkF m 0 #[.val (.ref o0), .val (.double lo), .second, .val (.double hi), .second, .val (.double wn), .second, .unset, .unset, .unset, .unset, .unset] [])) t → Steps p.tables e below (s₁.setTop (entryFrame m #[(.ref o0), (.double lo), (.double hi), (.double wn)] 12)) t := fun t k => castTop (ef_7_RDDD m o0 lo hi wn) k
  obtain ⟨cq1, q1, q1'⟩ := E_o0.cell
  obtain ⟨_, _, ⟨T1, L1, k1, n1⟩, -, X1, ⟨Lc1, hQ1, l1, y1, z1⟩, st1⟩ := X0.privateBack hx (y := (⟨"com/example/hedgeway/hedgeway/routing/Lambdas", "firstAbove", "(D)I"⟩ : MethodName)) hown (mvT hZ (hw _ (List.mem_of_getElem? (i := 46) rfl))) (mvT hZ (hw _ (List.mem_of_getElem? (i := 47) rfl))) (mvT hZ (own_selp (by decide) (hw _ (List.mem_of_getElem? (i := 6) rfl)) (hw _ (List.mem_of_getElem? (i := 48) rfl)) (hw _ (List.mem_of_getElem? (i := 47) rfl)))) (Cond.privateMethod_at (mvP hZ (hw _ (List.mem_of_getElem? (i := 48) rfl)) (args := #[]))) (mvT hZ (hw _ (List.mem_of_getElem? (i := 49) rfl))) (by decide) (backOf (W := 0) (fab l Z a0 hw [] o0 s0 kA eb x0 x1 x2 lo h0 n0 Z0 F_grid_o0 F_errorBound_o0 E_o0 V_s0 hd33_5_5_2 hd49_5_5_2 hd33_1_5_5_2 hd49_1_5_5_2) hZ (hw _ (List.mem_of_getElem? (i := 49) rfl)) (hw _ (List.mem_of_getElem? (i := 3) rfl)) (by decide) (by decide)) (g := (mkF m 2 #[.val (.ref o0), .val (.double lo), .second, .val (.double hi), .second, .val (.double wn), .second, .unset, .unset, .unset, .unset, .unset] [(.double lo), (.ref o0)])) rfl (by rw [hml]; rfl) (Steps.refl _) (a := o0) (by rw [e0]; exact q1) q1' (argsL := [(.double lo)]) (rest := []) (lenOf pd_4 rfl) rfl (by show 2 * 0 + _ ≤ _; exact Nat.le_of_eq rfl) (hb hby d7_2) (fun _ _ => ⟨rfl, e0, (by decide : 0 + 0 ≤ _), (by decide : 0 + 0 ≤ _)⟩)
  dsimp only [Pt.U, Pt.locs, Pt.cells, Pt.slots] at X1 l1 y1 z1 st1 hQ1
  subst l1 y1 z1
  obtain ⟨rfl, N1q, eh1⟩ := hQ1
  have N1 := Fr.app N0 N1q
  have e1 : T1.heap = h0 := eh1
  obtain ⟨cq2, q2, q2'⟩ := E_o0.cell
  obtain ⟨_, _, ⟨T2, L2, k2, n2⟩, -, X2, ⟨Lc2, hQ2, l2, y2, z2⟩, st2⟩ := X1.privateBack hx (y := (⟨"com/example/hedgeway/hedgeway/routing/Lambdas", "firstAtLeast", "(D)I"⟩ : MethodName)) hown (mvT hZ (hw _ (List.mem_of_getElem? (i := 57) rfl))) (mvT hZ (hw _ (List.mem_of_getElem? (i := 58) rfl))) (mvT hZ (own_selp (by decide) (hw _ (List.mem_of_getElem? (i := 6) rfl)) (hw _ (List.mem_of_getElem? (i := 59) rfl)) (hw _ (List.mem_of_getElem? (i := 58) rfl)))) (Cond.privateMethod_at (mvP hZ (hw _ (List.mem_of_getElem? (i := 59) rfl)) (args := #[]))) (mvT hZ (hw _ (List.mem_of_getElem? (i := 60) rfl))) (by decide) (backOf (W := 0) (falhi l Z a0 hw [] o0 s0 kA eb x0 x1 x2 hi h0 n0 Z0 F_grid_o0 F_errorBound_o0 E_o0 V_s0 hd33_5_5_9 hd33_1_5_5_9) hZ (hw _ (List.mem_of_getElem? (i := 60) rfl)) (hw _ (List.mem_of_getElem? (i := 3) rfl)) (by decide) (by decide)) (g := (mkF m 9 #[.val (.ref o0), .val (.double lo), .second, .val (.double hi), .second, .val (.double wn), .second, .val (.int (0 : Int32)), .unset, .unset, .unset, .unset] [(.double hi), (.ref o0)])) rfl (by rw [hml]; rfl) (Steps.refl _) (a := o0) (by rw [e1]; exact q2) q2' (argsL := [(.double hi)]) (rest := []) (lenOf pd_4 rfl) rfl (by show 2 * 0 + _ ≤ _; exact Nat.le_of_eq rfl) (hb hby d7_9) (fun _ _ => ⟨rfl, e1, (by decide : 0 + 0 ≤ _), (by decide : 0 + 0 ≤ _)⟩)
  dsimp only [Pt.U, Pt.locs, Pt.cells, Pt.slots] at X2 l2 y2 z2 st2 hQ2
  subst l2 y2 z2
  obtain ⟨rfl, N2q, eh2⟩ := hQ2
  have N2 := Fr.app N1 N2q
  have e2 : T2.heap = h0 := eh2
  obtain ⟨T3, X3, e3, st3⟩ := getF X2 hx hZ hown (host := "") (Or.inl (hw _ (List.mem_of_getElem? (i := 22) rfl))) Via.refl e2 F_grid_o0 (g := (mkF m 30 #[.val (.ref o0), .val (.double lo), .second, .val (.double hi), .second, .val (.double wn), .second, .val (.int (0 : Int32)), .val (.int (2 : Int32)), .unset, .unset, .unset] [(.ref o0), (.double wn)])) rfl rfl (hb hby d7_30)
  obtain ⟨cq4, Arq4, -, Sq4, -, Hq4, -⟩ := id V_s0
  obtain ⟨T5, X5, e5, st5⟩ := natS X3 hx hZ (y := (⟨"java/lang/Math", "max", "(DD)D"⟩ : MethodName)) hown (hw _ (List.mem_of_getElem? (i := 61) rfl)) (hw _ (List.mem_of_getElem? (i := 62) rfl)) (hw _ (List.mem_of_getElem? (i := 63) rfl)) (hw _ (List.mem_of_getElem? (i := 64) rfl)) (by decide) e3 (W := 0) (F := fun a' => a' = #[(.double wn), (.double x0)] ∧ Jvm.Free.Fl.NoNaN64 wn ∧ Jvm.Free.Fl.NoNaN64 x0) (val := .double (Native.java_lang_Math.nans.pick64 true wn x0)) (val' := .double um) (fun c4 => Jvm.Free.Fl.Abs.maxD_pays wn x0 c4 (by decide) (by decide)) (g := (mkF m 36 #[.val (.ref o0), .val (.double lo), .second, .val (.double hi), .second, .val (.double wn), .second, .val (.int (0 : Int32)), .val (.int (2 : Int32)), .unset, .unset, .unset] [(.double x0), (.double wn)])) rfl (by rw [hml]; rfl) (argsL := [(.double wn), (.double x0)]) (rest := []) (lenOf pd_5 rfl) rfl (by show 2 * 0 + _ ≤ _; exact Nat.le_of_eq rfl) (hb hby d7_36) (by decide) (by decide) ⟨rfl, nna36, nnb36⟩ (congrArg Value.double hq36)
  obtain ⟨T6, X6, e6, st6⟩ := getF X5 hx hZ hown (host := "") (Or.inl (hw _ (List.mem_of_getElem? (i := 22) rfl))) Via.refl e5 F_grid_o0 (g := (mkF m 40 #[.val (.ref o0), .val (.double lo), .second, .val (.double hi), .second, .val (.double wn), .second, .val (.int (0 : Int32)), .val (.int (2 : Int32)), .unset, .unset, .unset] [(.ref o0), (.double um)])) rfl rfl (hb hby d7_40)
  obtain ⟨cq7, Arq7, -, Sq7, -, Hq7, -⟩ := id V_s0
  obtain ⟨T8, X8, e8, st8⟩ := natS X6 hx hZ (y := (⟨"java/lang/Math", "min", "(DD)D"⟩ : MethodName)) hown (hw _ (List.mem_of_getElem? (i := 65) rfl)) (hw _ (List.mem_of_getElem? (i := 66) rfl)) (hw _ (List.mem_of_getElem? (i := 63) rfl)) (hw _ (List.mem_of_getElem? (i := 67) rfl)) (by decide) e6 (W := 0) (F := fun a' => a' = #[(.double um), (.double x2)] ∧ Jvm.Free.Fl.NoNaN64 um ∧ Jvm.Free.Fl.NoNaN64 x2) (val := .double (Native.java_lang_Math.nans.pick64 false um x2)) (val' := .double x1) (fun c4 => Jvm.Free.Fl.Abs.minD_pays um x2 c4 (by decide) (by decide)) (g := (mkF m 46 #[.val (.ref o0), .val (.double lo), .second, .val (.double hi), .second, .val (.double wn), .second, .val (.int (0 : Int32)), .val (.int (2 : Int32)), .unset, .unset, .unset] [(.double x2), (.double um)])) rfl (by rw [hml]; rfl) (argsL := [(.double um), (.double x2)]) (rest := []) (lenOf pd_5 rfl) rfl (by show 2 * 0 + _ ≤ _; exact Nat.le_of_eq rfl) (hb hby d7_46) (by decide) (by decide) ⟨rfl, nna46, nnb46⟩ (congrArg Value.double hmin)
  obtain ⟨cq9, q9, q9'⟩ := E_o0.cell
  obtain ⟨_, _, ⟨T9, L9, k9, n9⟩, -, X9, ⟨Lc9, hQ9, l9, y9, z9⟩, st9⟩ := X8.privateBack hx (y := (⟨"com/example/hedgeway/hedgeway/routing/Lambdas", "firstAtLeast", "(D)I"⟩ : MethodName)) hown (mvT hZ (hw _ (List.mem_of_getElem? (i := 57) rfl))) (mvT hZ (hw _ (List.mem_of_getElem? (i := 58) rfl))) (mvT hZ (own_selp (by decide) (hw _ (List.mem_of_getElem? (i := 6) rfl)) (hw _ (List.mem_of_getElem? (i := 59) rfl)) (hw _ (List.mem_of_getElem? (i := 58) rfl)))) (Cond.privateMethod_at (mvP hZ (hw _ (List.mem_of_getElem? (i := 59) rfl)) (args := #[]))) (mvT hZ (hw _ (List.mem_of_getElem? (i := 60) rfl))) (by decide) (backOf (W := 0) (fal1 l Z a0 hw [] o0 s0 kA eb x0 x1 x2 h0 n0 Z0 F_grid_o0 F_errorBound_o0 E_o0 V_s0 hd33_5_5_54 hd49_5_5_54 hd2_1_64_5_5_54 hd2_1_70_5_5_54) hZ (hw _ (List.mem_of_getElem? (i := 60) rfl)) (hw _ (List.mem_of_getElem? (i := 3) rfl)) (by decide) (by decide)) (g := (mkF m 54 #[.val (.ref o0), .val (.double lo), .second, .val (.double hi), .second, .val (.double wn), .second, .val (.int (0 : Int32)), .val (.int (2 : Int32)), .val (.double x1), .second, .unset] [(.double x1), (.ref o0)])) rfl (by rw [hml]; rfl) (Steps.refl _) (a := o0) (by rw [e8]; exact q9) q9' (argsL := [(.double x1)]) (rest := []) (lenOf pd_4 rfl) rfl (by show 2 * 0 + _ ≤ _; exact Nat.le_of_eq rfl) (hb hby d7_54) (fun _ _ => ⟨rfl, e8, (by decide : 0 + 0 ≤ _), (by decide : 0 + 0 ≤ _)⟩)
  dsimp only [Pt.U, Pt.locs, Pt.cells, Pt.slots] at X9 l9 y9 z9 st9 hQ9
  subst l9 y9 z9
  obtain ⟨rfl, N9q, eh9⟩ := hQ9
  have N9 := Fr.app N2 N9q
  have e9 : T9.heap = h0 := eh9
  obtain ⟨T10, X10, e10, st10⟩ := getF X9 hx hZ hown (host := "") (Or.inl (hw _ (List.mem_of_getElem? (i := 22) rfl))) Via.refl e9 F_grid_o0 (g := (mkF m 67 #[.val (.ref o0), .val (.double lo), .second, .val (.double hi), .second, .val (.double wn), .second, .val (.int (0 : Int32)), .val (.int (2 : Int32)), .val (.double x1), .second, .val (.int (1 : Int32))] [(.ref o0)])) rfl rfl (hb hby d7_67)
  obtain ⟨cq11, Arq11, -, Sq11, -, Hq11, -⟩ := id V_s0
  obtain ⟨T12, X12, e12, st12⟩ := getF X10 hx hZ hown (host := "") (Or.inl (hw _ (List.mem_of_getElem? (i := 22) rfl))) Via.refl e10 F_grid_o0 (g := (mkF m 79 #[.val (.ref o0), .val (.double lo), .second, .val (.double hi), .second, .val (.double wn), .second, .val (.int (0 : Int32)), .val (.int (2 : Int32)), .val (.double x1), .second, .val (.int (1 : Int32))] [(.ref o0), (.double x1), (.double (FP.ddiv x1 x1))])) rfl rfl (hb hby d7_79)
  obtain ⟨cq13, Arq13, -, Sq13, -, Hq13, -⟩ := id V_s0
  obtain ⟨T14, X14, e14, st14⟩ := getF X12 hx hZ hown (host := "") (Or.inl (hw _ (List.mem_of_getElem? (i := 22) rfl))) Via.refl e12 F_grid_o0 (g := (mkF m 96 #[.val (.ref o0), .val (.double lo), .second, .val (.double hi), .second, .val (.double wn), .second, .val (.int (0 : Int32)), .val (.int (2 : Int32)), .val (.double x1), .second, .val (.int (1 : Int32))] [(.ref o0)])) rfl rfl (hb hby d7_96)
  obtain ⟨cq15, Arq15, -, Sq15, -, Hq15, -⟩ := id V_s0
  obtain ⟨fs, hr, hrun, hended, hW, hsame⟩ := X14.leave (v := some (.double x1)) (fun h => by rw [Bd.returns] at h; cases h)
  refine ⟨_, _, pre0 _ ?_, hrun, hended, _, _, rfl, ?_, ⟨_, rfl⟩, hW, hsame.mono (by decide) (by decide)⟩
  · show Steps p.tables e below (s₁.setTop (mkF m 0 #[.val (.ref o0), .val (.double lo), .second, .val (.double hi), .second, .val (.double wn), .second, .unset, .unset, .unset, .unset, .unset] [])) _
    refine XS.aloadN X0.here hx rfl (hb hby d7_0) rfl rfl ?_
    show Steps p.tables e below (s₁.setTop (mkF m 1 #[.val (.ref o0), .val (.double lo), .second, .val (.double hi), .second, .val (.double wn), .second, .unset, .unset, .unset, .unset, .unset] [(.ref o0)])) _
    refine XS.dloadN X0.here hx rfl (hb hby d7_1) rfl ?_
    show Steps p.tables e below (s₁.setTop (mkF m 2 #[.val (.ref o0), .val (.double lo), .second, .val (.double hi), .second, .val (.double wn), .second, .unset, .unset, .unset, .unset, .unset] [(.double lo), (.ref o0)])) _
    refine st1.trans ?_
    show Steps p.tables e below (T1.setTop (mkF m 5 #[.val (.ref o0), .val (.double lo), .second, .val (.double hi), .second, .val (.double wn), .second, .unset, .unset, .unset, .unset, .unset] [(.int (0 : Int32))])) _
    refine XS.istore X1.here hx rfl (hb hby d7_5) rfl (l' := #[.val (.ref o0), .val (.double lo), .second, .val (.double hi), .second, .val (.double wn), .second, .val (.int (0 : Int32)), .unset, .unset, .unset, .unset]) rfl ?_
    show Steps p.tables e below (T1.setTop (mkF m 7 #[.val (.ref o0), .val (.double lo), .second, .val (.double hi), .second, .val (.double wn), .second, .val (.int (0 : Int32)), .unset, .unset, .unset, .unset] [])) _
    refine XS.aloadN X1.here hx rfl (hb hby d7_7) rfl rfl ?_
    show Steps p.tables e below (T1.setTop (mkF m 8 #[.val (.ref o0), .val (.double lo), .second, .val (.double hi), .second, .val (.double wn), .second, .val (.int (0 : Int32)), .unset, .unset, .unset, .unset] [(.ref o0)])) _
    refine XS.dloadN X1.here hx rfl (hb hby d7_8) rfl ?_
    show Steps p.tables e below (T1.setTop (mkF m 9 #[.val (.ref o0), .val (.double lo), .second, .val (.double hi), .second, .val (.double wn), .second, .val (.int (0 : Int32)), .unset, .unset, .unset, .unset] [(.double hi), (.ref o0)])) _
    refine st2.trans ?_
    show Steps p.tables e below (T2.setTop (mkF m 12 #[.val (.ref o0), .val (.double lo), .second, .val (.double hi), .second, .val (.double wn), .second, .val (.int (0 : Int32)), .unset, .unset, .unset, .unset] [(.int (3 : Int32))])) _
    refine XS.iconst X2.here hx rfl (hb hby d7_12) ?_
    show Steps p.tables e below (T2.setTop (mkF m 13 #[.val (.ref o0), .val (.double lo), .second, .val (.double hi), .second, .val (.double wn), .second, .val (.int (0 : Int32)), .unset, .unset, .unset, .unset] [(.int (1 : Int32)), (.int (3 : Int32))])) _
    refine XS.isub X2.here hx rfl (hb hby d7_13) rfl ?_
    show Steps p.tables e below (T2.setTop (mkF m 14 #[.val (.ref o0), .val (.double lo), .second, .val (.double hi), .second, .val (.double wn), .second, .val (.int (0 : Int32)), .unset, .unset, .unset, .unset] [(.int ((3 : Int32) - (1 : Int32)))])) _
    rw [show ((3 : Int32) - (1 : Int32)) = (2 : Int32) by decide]
    show Steps p.tables e below (T2.setTop (mkF m 14 #[.val (.ref o0), .val (.double lo), .second, .val (.double hi), .second, .val (.double wn), .second, .val (.int (0 : Int32)), .unset, .unset, .unset, .unset] [(.int (2 : Int32))])) _
    refine XS.istore X2.here hx rfl (hb hby d7_14) rfl (l' := #[.val (.ref o0), .val (.double lo), .second, .val (.double hi), .second, .val (.double wn), .second, .val (.int (0 : Int32)), .val (.int (2 : Int32)), .unset, .unset, .unset]) rfl ?_
    show Steps p.tables e below (T2.setTop (mkF m 16 #[.val (.ref o0), .val (.double lo), .second, .val (.double hi), .second, .val (.double wn), .second, .val (.int (0 : Int32)), .val (.int (2 : Int32)), .unset, .unset, .unset] [])) _
    refine XS.iload X2.here hx rfl (hb hby d7_16) rfl ?_
    show Steps p.tables e below (T2.setTop (mkF m 18 #[.val (.ref o0), .val (.double lo), .second, .val (.double hi), .second, .val (.double wn), .second, .val (.int (0 : Int32)), .val (.int (2 : Int32)), .unset, .unset, .unset] [(.int (0 : Int32))])) _
    refine XS.iload X2.here hx rfl (hb hby d7_18) rfl ?_
    show Steps p.tables e below (T2.setTop (mkF m 20 #[.val (.ref o0), .val (.double lo), .second, .val (.double hi), .second, .val (.double wn), .second, .val (.int (0 : Int32)), .val (.int (2 : Int32)), .unset, .unset, .unset] [(.int (2 : Int32)), (.int (0 : Int32))])) _
    refine XS.icmpYes X2.here hx rfl (pc0 := 20) (pc' := 27) rfl (hb hby d7_20) rfl (flt (by decide : ¬ ((2 : Int32) < (0 : Int32)))).2.2.2 (by decide) (by decide) ?_
    show Steps p.tables e below (T2.setTop (mkF m 27 #[.val (.ref o0), .val (.double lo), .second, .val (.double hi), .second, .val (.double wn), .second, .val (.int (0 : Int32)), .val (.int (2 : Int32)), .unset, .unset, .unset] [])) _
    refine XS.dload X2.here hx rfl (hb hby d7_27) rfl ?_
    show Steps p.tables e below (T2.setTop (mkF m 29 #[.val (.ref o0), .val (.double lo), .second, .val (.double hi), .second, .val (.double wn), .second, .val (.int (0 : Int32)), .val (.int (2 : Int32)), .unset, .unset, .unset] [(.double wn)])) _
    refine XS.aloadN X2.here hx rfl (hb hby d7_29) rfl rfl ?_
    show Steps p.tables e below (T2.setTop (mkF m 30 #[.val (.ref o0), .val (.double lo), .second, .val (.double hi), .second, .val (.double wn), .second, .val (.int (0 : Int32)), .val (.int (2 : Int32)), .unset, .unset, .unset] [(.ref o0), (.double wn)])) _
    refine st3 _ ?_
    show Steps p.tables e below (T3.setTop (mkF m 33 #[.val (.ref o0), .val (.double lo), .second, .val (.double hi), .second, .val (.double wn), .second, .val (.int (0 : Int32)), .val (.int (2 : Int32)), .unset, .unset, .unset] [(.ref s0), (.double wn)])) _
    refine XS.iload X3.here hx rfl (hb hby d7_33) rfl ?_
    show Steps p.tables e below (T3.setTop (mkF m 35 #[.val (.ref o0), .val (.double lo), .second, .val (.double hi), .second, .val (.double wn), .second, .val (.int (0 : Int32)), .val (.int (2 : Int32)), .unset, .unset, .unset] [(.int (0 : Int32)), (.ref s0), (.double wn)])) _
    refine X3.daload hx (j := (0 : Int32)) (v := (.double x0)) (by rw [e3]; exact Arq4.1) (State.isArrayOf_alike hZ.alike Arq4.2.1) Arq4.2.2 (inb_of Sq4 ⟨by decide, by decide⟩) (Has.at Hq4 (inb_of Sq4 ⟨by decide, by decide⟩) rfl) (g := (mkF m 35 #[.val (.ref o0), .val (.double lo), .second, .val (.double hi), .second, .val (.double wn), .second, .val (.int (0 : Int32)), .val (.int (2 : Int32)), .unset, .unset, .unset] [(.int (0 : Int32)), (.ref s0), (.double wn)])) rfl rfl (hb hby d7_35) _ ?_
    show Steps p.tables e below (T3.setTop (mkF m 36 #[.val (.ref o0), .val (.double lo), .second, .val (.double hi), .second, .val (.double wn), .second, .val (.int (0 : Int32)), .val (.int (2 : Int32)), .unset, .unset, .unset] [(.double x0), (.double wn)])) _
    refine st5 _ ?_
    show Steps p.tables e below (T5.setTop (mkF m 39 #[.val (.ref o0), .val (.double lo), .second, .val (.double hi), .second, .val (.double wn), .second, .val (.int (0 : Int32)), .val (.int (2 : Int32)), .unset, .unset, .unset] [(.double um)])) _
    refine XS.aloadN X5.here hx rfl (hb hby d7_39) rfl rfl ?_
    show Steps p.tables e below (T5.setTop (mkF m 40 #[.val (.ref o0), .val (.double lo), .second, .val (.double hi), .second, .val (.double wn), .second, .val (.int (0 : Int32)), .val (.int (2 : Int32)), .unset, .unset, .unset] [(.ref o0), (.double um)])) _
    refine st6 _ ?_
    show Steps p.tables e below (T6.setTop (mkF m 43 #[.val (.ref o0), .val (.double lo), .second, .val (.double hi), .second, .val (.double wn), .second, .val (.int (0 : Int32)), .val (.int (2 : Int32)), .unset, .unset, .unset] [(.ref s0), (.double um)])) _
    refine XS.iload X6.here hx rfl (hb hby d7_43) rfl ?_
    show Steps p.tables e below (T6.setTop (mkF m 45 #[.val (.ref o0), .val (.double lo), .second, .val (.double hi), .second, .val (.double wn), .second, .val (.int (0 : Int32)), .val (.int (2 : Int32)), .unset, .unset, .unset] [(.int (2 : Int32)), (.ref s0), (.double um)])) _
    refine X6.daload hx (j := (2 : Int32)) (v := (.double x2)) (by rw [e6]; exact Arq7.1) (State.isArrayOf_alike hZ.alike Arq7.2.1) Arq7.2.2 (inb_of Sq7 ⟨by decide, by decide⟩) (Has.at Hq7 (inb_of Sq7 ⟨by decide, by decide⟩) rfl) (g := (mkF m 45 #[.val (.ref o0), .val (.double lo), .second, .val (.double hi), .second, .val (.double wn), .second, .val (.int (0 : Int32)), .val (.int (2 : Int32)), .unset, .unset, .unset] [(.int (2 : Int32)), (.ref s0), (.double um)])) rfl rfl (hb hby d7_45) _ ?_
    show Steps p.tables e below (T6.setTop (mkF m 46 #[.val (.ref o0), .val (.double lo), .second, .val (.double hi), .second, .val (.double wn), .second, .val (.int (0 : Int32)), .val (.int (2 : Int32)), .unset, .unset, .unset] [(.double x2), (.double um)])) _
    refine st8 _ ?_
    show Steps p.tables e below (T8.setTop (mkF m 49 #[.val (.ref o0), .val (.double lo), .second, .val (.double hi), .second, .val (.double wn), .second, .val (.int (0 : Int32)), .val (.int (2 : Int32)), .unset, .unset, .unset] [(.double x1)])) _
    refine XS.dstore X8.here hx rfl (hb hby d7_49) rfl (l' := #[.val (.ref o0), .val (.double lo), .second, .val (.double hi), .second, .val (.double wn), .second, .val (.int (0 : Int32)), .val (.int (2 : Int32)), .val (.double x1), .second, .unset]) rfl ?_
    show Steps p.tables e below (T8.setTop (mkF m 51 #[.val (.ref o0), .val (.double lo), .second, .val (.double hi), .second, .val (.double wn), .second, .val (.int (0 : Int32)), .val (.int (2 : Int32)), .val (.double x1), .second, .unset] [])) _
    refine XS.aloadN X8.here hx rfl (hb hby d7_51) rfl rfl ?_
    show Steps p.tables e below (T8.setTop (mkF m 52 #[.val (.ref o0), .val (.double lo), .second, .val (.double hi), .second, .val (.double wn), .second, .val (.int (0 : Int32)), .val (.int (2 : Int32)), .val (.double x1), .second, .unset] [(.ref o0)])) _
    refine XS.dload X8.here hx rfl (hb hby d7_52) rfl ?_
    show Steps p.tables e below (T8.setTop (mkF m 54 #[.val (.ref o0), .val (.double lo), .second, .val (.double hi), .second, .val (.double wn), .second, .val (.int (0 : Int32)), .val (.int (2 : Int32)), .val (.double x1), .second, .unset] [(.double x1), (.ref o0)])) _
    refine st9.trans ?_
    show Steps p.tables e below (T9.setTop (mkF m 57 #[.val (.ref o0), .val (.double lo), .second, .val (.double hi), .second, .val (.double wn), .second, .val (.int (0 : Int32)), .val (.int (2 : Int32)), .val (.double x1), .second, .unset] [(.int (1 : Int32))])) _
    refine XS.istore X9.here hx rfl (hb hby d7_57) rfl (l' := #[.val (.ref o0), .val (.double lo), .second, .val (.double hi), .second, .val (.double wn), .second, .val (.int (0 : Int32)), .val (.int (2 : Int32)), .val (.double x1), .second, .val (.int (1 : Int32))]) rfl ?_
    show Steps p.tables e below (T9.setTop (mkF m 59 #[.val (.ref o0), .val (.double lo), .second, .val (.double hi), .second, .val (.double wn), .second, .val (.int (0 : Int32)), .val (.int (2 : Int32)), .val (.double x1), .second, .val (.int (1 : Int32))] [])) _
    refine XS.iload X9.here hx rfl (hb hby d7_59) rfl ?_
    show Steps p.tables e below (T9.setTop (mkF m 61 #[.val (.ref o0), .val (.double lo), .second, .val (.double hi), .second, .val (.double wn), .second, .val (.int (0 : Int32)), .val (.int (2 : Int32)), .val (.double x1), .second, .val (.int (1 : Int32))] [(.int (1 : Int32))])) _
    refine XS.iload X9.here hx rfl (hb hby d7_61) rfl ?_
    show Steps p.tables e below (T9.setTop (mkF m 63 #[.val (.ref o0), .val (.double lo), .second, .val (.double hi), .second, .val (.double wn), .second, .val (.int (0 : Int32)), .val (.int (2 : Int32)), .val (.double x1), .second, .val (.int (1 : Int32))] [(.int (0 : Int32)), (.int (1 : Int32))])) _
    refine XS.icmpNo X9.here hx rfl (hb hby d7_63) rfl (tlt (by decide : (0 : Int32) < (1 : Int32))).2.2.2 ?_
    show Steps p.tables e below (T9.setTop (mkF m 66 #[.val (.ref o0), .val (.double lo), .second, .val (.double hi), .second, .val (.double wn), .second, .val (.int (0 : Int32)), .val (.int (2 : Int32)), .val (.double x1), .second, .val (.int (1 : Int32))] [])) _
    refine XS.aloadN X9.here hx rfl (hb hby d7_66) rfl rfl ?_
    show Steps p.tables e below (T9.setTop (mkF m 67 #[.val (.ref o0), .val (.double lo), .second, .val (.double hi), .second, .val (.double wn), .second, .val (.int (0 : Int32)), .val (.int (2 : Int32)), .val (.double x1), .second, .val (.int (1 : Int32))] [(.ref o0)])) _
    refine st10 _ ?_
    show Steps p.tables e below (T10.setTop (mkF m 70 #[.val (.ref o0), .val (.double lo), .second, .val (.double hi), .second, .val (.double wn), .second, .val (.int (0 : Int32)), .val (.int (2 : Int32)), .val (.double x1), .second, .val (.int (1 : Int32))] [(.ref s0)])) _
    refine XS.iload X10.here hx rfl (hb hby d7_70) rfl ?_
    show Steps p.tables e below (T10.setTop (mkF m 72 #[.val (.ref o0), .val (.double lo), .second, .val (.double hi), .second, .val (.double wn), .second, .val (.int (0 : Int32)), .val (.int (2 : Int32)), .val (.double x1), .second, .val (.int (1 : Int32))] [(.int (1 : Int32)), (.ref s0)])) _
    refine X10.daload hx (j := (1 : Int32)) (v := (.double x1)) (by rw [e10]; exact Arq11.1) (State.isArrayOf_alike hZ.alike Arq11.2.1) Arq11.2.2 (inb_of Sq11 ⟨by decide, by decide⟩) (Has.at Hq11 (inb_of Sq11 ⟨by decide, by decide⟩) rfl) (g := (mkF m 72 #[.val (.ref o0), .val (.double lo), .second, .val (.double hi), .second, .val (.double wn), .second, .val (.int (0 : Int32)), .val (.int (2 : Int32)), .val (.double x1), .second, .val (.int (1 : Int32))] [(.int (1 : Int32)), (.ref s0)])) rfl rfl (hb hby d7_72) _ ?_
    show Steps p.tables e below (T10.setTop (mkF m 73 #[.val (.ref o0), .val (.double lo), .second, .val (.double hi), .second, .val (.double wn), .second, .val (.int (0 : Int32)), .val (.int (2 : Int32)), .val (.double x1), .second, .val (.int (1 : Int32))] [(.double x1)])) _
    refine XS.dload X10.here hx rfl (hb hby d7_73) rfl ?_
    show Steps p.tables e below (T10.setTop (mkF m 75 #[.val (.ref o0), .val (.double lo), .second, .val (.double hi), .second, .val (.double wn), .second, .val (.int (0 : Int32)), .val (.int (2 : Int32)), .val (.double x1), .second, .val (.int (1 : Int32))] [(.double x1), (.double x1)])) _
    refine XS.ddivS X10.here hx rfl (hb hby d7_75) rfl nn75 (v := (FP.ddiv x1 x1)) rfl ?_
    show Steps p.tables e below (T10.setTop (mkF m 76 #[.val (.ref o0), .val (.double lo), .second, .val (.double hi), .second, .val (.double wn), .second, .val (.int (0 : Int32)), .val (.int (2 : Int32)), .val (.double x1), .second, .val (.int (1 : Int32))] [(.double (FP.ddiv x1 x1))])) _
    refine XS.dload X10.here hx rfl (hb hby d7_76) rfl ?_
    show Steps p.tables e below (T10.setTop (mkF m 78 #[.val (.ref o0), .val (.double lo), .second, .val (.double hi), .second, .val (.double wn), .second, .val (.int (0 : Int32)), .val (.int (2 : Int32)), .val (.double x1), .second, .val (.int (1 : Int32))] [(.double x1), (.double (FP.ddiv x1 x1))])) _
    refine XS.aloadN X10.here hx rfl (hb hby d7_78) rfl rfl ?_
    show Steps p.tables e below (T10.setTop (mkF m 79 #[.val (.ref o0), .val (.double lo), .second, .val (.double hi), .second, .val (.double wn), .second, .val (.int (0 : Int32)), .val (.int (2 : Int32)), .val (.double x1), .second, .val (.int (1 : Int32))] [(.ref o0), (.double x1), (.double (FP.ddiv x1 x1))])) _
    refine st12 _ ?_
    show Steps p.tables e below (T12.setTop (mkF m 82 #[.val (.ref o0), .val (.double lo), .second, .val (.double hi), .second, .val (.double wn), .second, .val (.int (0 : Int32)), .val (.int (2 : Int32)), .val (.double x1), .second, .val (.int (1 : Int32))] [(.ref s0), (.double x1), (.double (FP.ddiv x1 x1))])) _
    refine XS.iload X12.here hx rfl (hb hby d7_82) rfl ?_
    show Steps p.tables e below (T12.setTop (mkF m 84 #[.val (.ref o0), .val (.double lo), .second, .val (.double hi), .second, .val (.double wn), .second, .val (.int (0 : Int32)), .val (.int (2 : Int32)), .val (.double x1), .second, .val (.int (1 : Int32))] [(.int (1 : Int32)), (.ref s0), (.double x1), (.double (FP.ddiv x1 x1))])) _
    refine XS.iconst X12.here hx rfl (hb hby d7_84) ?_
    show Steps p.tables e below (T12.setTop (mkF m 85 #[.val (.ref o0), .val (.double lo), .second, .val (.double hi), .second, .val (.double wn), .second, .val (.int (0 : Int32)), .val (.int (2 : Int32)), .val (.double x1), .second, .val (.int (1 : Int32))] [(.int (1 : Int32)), (.int (1 : Int32)), (.ref s0), (.double x1), (.double (FP.ddiv x1 x1))])) _
    refine XS.isub X12.here hx rfl (hb hby d7_85) rfl ?_
    show Steps p.tables e below (T12.setTop (mkF m 86 #[.val (.ref o0), .val (.double lo), .second, .val (.double hi), .second, .val (.double wn), .second, .val (.int (0 : Int32)), .val (.int (2 : Int32)), .val (.double x1), .second, .val (.int (1 : Int32))] [(.int ((1 : Int32) - (1 : Int32))), (.ref s0), (.double x1), (.double (FP.ddiv x1 x1))])) _
    rw [show ((1 : Int32) - (1 : Int32)) = (0 : Int32) by decide]
    show Steps p.tables e below (T12.setTop (mkF m 86 #[.val (.ref o0), .val (.double lo), .second, .val (.double hi), .second, .val (.double wn), .second, .val (.int (0 : Int32)), .val (.int (2 : Int32)), .val (.double x1), .second, .val (.int (1 : Int32))] [(.int (0 : Int32)), (.ref s0), (.double x1), (.double (FP.ddiv x1 x1))])) _
    refine X12.daload hx (j := (0 : Int32)) (v := (.double x0)) (by rw [e12]; exact Arq13.1) (State.isArrayOf_alike hZ.alike Arq13.2.1) Arq13.2.2 (inb_of Sq13 ⟨by decide, by decide⟩) (Has.at Hq13 (inb_of Sq13 ⟨by decide, by decide⟩) rfl) (g := (mkF m 86 #[.val (.ref o0), .val (.double lo), .second, .val (.double hi), .second, .val (.double wn), .second, .val (.int (0 : Int32)), .val (.int (2 : Int32)), .val (.double x1), .second, .val (.int (1 : Int32))] [(.int (0 : Int32)), (.ref s0), (.double x1), (.double (FP.ddiv x1 x1))])) rfl rfl (hb hby d7_86) _ ?_
    show Steps p.tables e below (T12.setTop (mkF m 87 #[.val (.ref o0), .val (.double lo), .second, .val (.double hi), .second, .val (.double wn), .second, .val (.int (0 : Int32)), .val (.int (2 : Int32)), .val (.double x1), .second, .val (.int (1 : Int32))] [(.double x0), (.double x1), (.double (FP.ddiv x1 x1))])) _
    refine XS.ddivS X12.here hx rfl (hb hby d7_87) rfl nn87 (v := (FP.ddiv x1 x0)) rfl ?_
    show Steps p.tables e below (T12.setTop (mkF m 88 #[.val (.ref o0), .val (.double lo), .second, .val (.double hi), .second, .val (.double wn), .second, .val (.int (0 : Int32)), .val (.int (2 : Int32)), .val (.double x1), .second, .val (.int (1 : Int32))] [(.double (FP.ddiv x1 x0)), (.double (FP.ddiv x1 x1))])) _
    refine XS.dcmpS X12.here hx rfl (hb hby d7_88) rfl (v := (cmpValue (FP.dcmp (FP.ddiv x1 x1) (FP.ddiv x1 x0)) .l)) rfl ?_
    show Steps p.tables e below (T12.setTop (mkF m 89 #[.val (.ref o0), .val (.double lo), .second, .val (.double hi), .second, .val (.double wn), .second, .val (.int (0 : Int32)), .val (.int (2 : Int32)), .val (.double x1), .second, .val (.int (1 : Int32))] [(.int (cmpValue (FP.dcmp (FP.ddiv x1 x1) (FP.ddiv x1 x0)) .l))])) _
    refine XS.ifYes X12.here hx rfl (pc0 := 89) (pc' := 95) rfl (hb hby d7_89) rfl ((if0 _ _).trans (flt hc89).2.2.2) (by decide) (by decide) ?_
    show Steps p.tables e below (T12.setTop (mkF m 95 #[.val (.ref o0), .val (.double lo), .second, .val (.double hi), .second, .val (.double wn), .second, .val (.int (0 : Int32)), .val (.int (2 : Int32)), .val (.double x1), .second, .val (.int (1 : Int32))] [])) _
    refine XS.aloadN X12.here hx rfl (hb hby d7_95) rfl rfl ?_
    show Steps p.tables e below (T12.setTop (mkF m 96 #[.val (.ref o0), .val (.double lo), .second, .val (.double hi), .second, .val (.double wn), .second, .val (.int (0 : Int32)), .val (.int (2 : Int32)), .val (.double x1), .second, .val (.int (1 : Int32))] [(.ref o0)])) _
    refine st14 _ ?_
    show Steps p.tables e below (T14.setTop (mkF m 99 #[.val (.ref o0), .val (.double lo), .second, .val (.double hi), .second, .val (.double wn), .second, .val (.int (0 : Int32)), .val (.int (2 : Int32)), .val (.double x1), .second, .val (.int (1 : Int32))] [(.ref s0)])) _
    refine XS.iload X14.here hx rfl (hb hby d7_99) rfl ?_
    show Steps p.tables e below (T14.setTop (mkF m 101 #[.val (.ref o0), .val (.double lo), .second, .val (.double hi), .second, .val (.double wn), .second, .val (.int (0 : Int32)), .val (.int (2 : Int32)), .val (.double x1), .second, .val (.int (1 : Int32))] [(.int (1 : Int32)), (.ref s0)])) _
    refine X14.daload hx (j := (1 : Int32)) (v := (.double x1)) (by rw [e14]; exact Arq15.1) (State.isArrayOf_alike hZ.alike Arq15.2.1) Arq15.2.2 (inb_of Sq15 ⟨by decide, by decide⟩) (Has.at Hq15 (inb_of Sq15 ⟨by decide, by decide⟩) rfl) (g := (mkF m 101 #[.val (.ref o0), .val (.double lo), .second, .val (.double hi), .second, .val (.double wn), .second, .val (.int (0 : Int32)), .val (.int (2 : Int32)), .val (.double x1), .second, .val (.int (1 : Int32))] [(.int (1 : Int32)), (.ref s0)])) rfl rfl (hb hby d7_101) _ ?_
    show Steps p.tables e below (T14.setTop (mkF m 102 #[.val (.ref o0), .val (.double lo), .second, .val (.double hi), .second, .val (.double wn), .second, .val (.int (0 : Int32)), .val (.int (2 : Int32)), .val (.double x1), .second, .val (.int (1 : Int32))] [(.double x1)])) _
    exact retOut X14 hx Bd.returns rfl (Or.inr (Or.inr (Or.inl ⟨rfl, rfl, _, rfl⟩))) (hb hby d7_102) hr
  · show Q_nb1 Z o0 s0 kA eb x0 x1 x2 lo hi wn um h0 n0 _ T14.heap _
    rw [e14]
    exact ⟨rfl, N9, rfl⟩
def Q_bt1 (Z : State) (o0 : Addr) (s0 : Addr) (kA : ClassId) (eb : UInt64) (x0 : UInt64) (x1 : UInt64) (x2 : UInt64) (lo : UInt64) (hi : UInt64) (wn : UInt64) (um : UInt64) (h0 : Heap) (n0 : Nat) (v : Option Value) (h : Heap) (L : List Loc) : Prop := v = some (.double x1) ∧ Fr n0 L ∧ h = h0
set_option maxRecDepth 65536 in
set_option maxHeartbeats 40000000 in
theorem bt1 (l : Launch) (Z : State) (a0 : Array Value) (hw : ∀ d ∈ tables_1, d.before a0 Z = true) (ws : List Jvm.Cond) (o0 : Addr) (s0 : Addr) (kA : ClassId) (eb : UInt64) (x0 : UInt64) (x1 : UInt64) (x2 : UInt64) (lo : UInt64) (hi : UInt64) (wn : UInt64) (um : UInt64) (h0 : Heap) (n0 : Nat) (Z0 : n0 ≤ h0.size) (F_grid_o0 : Fld Z h0 o0 "com/example/hedgeway/hedgeway/routing/Lambdas" "grid" "[D" (.ref s0)) (F_errorBound_o0 : Fld Z h0 o0 "com/example/hedgeway/hedgeway/routing/Lambdas" "errorBound" "D" (.double eb)) (E_o0 : Exa Z h0 o0 "com/example/hedgeway/hedgeway/routing/Lambdas") (V_s0 : Arv Z h0 s0 kA .double (3 : Int32) [(.double x0), (.double x1), (.double x2)] (.double (0 : UInt64))) (hmin_19 : (Native.java_lang_Math.nans.pick64 false um x2) = x1) (hd33_5_5_2_19 : (cmpValue (FP.dcmp x1 lo) .g) = (1 : Int32)) (hd49_5_5_2_19 : (cmpValue (FP.dcmp x1 lo) .l) = (1 : Int32)) (hd33_1_5_5_2_19 : (cmpValue (FP.dcmp x0 lo) .g) = (1 : Int32)) (hd49_1_5_5_2_19 : (cmpValue (FP.dcmp x0 lo) .l) = (1 : Int32)) (hd33_5_5_9_19 : (cmpValue (FP.dcmp x1 hi) .g) = (-1 : Int32)) (hd33_1_5_5_9_19 : (cmpValue (FP.dcmp x2 hi) .g) = (-1 : Int32)) (nna36_19 : Jvm.Free.Fl.NoNaN64 wn) (nnb36_19 : Jvm.Free.Fl.NoNaN64 x0) (hq36_19 : (Native.java_lang_Math.nans.pick64 true wn x0) = um) (nna46_19 : Jvm.Free.Fl.NoNaN64 um) (nnb46_19 : Jvm.Free.Fl.NoNaN64 x2) (hd33_5_5_54_19 : (cmpValue (FP.dcmp x1 x1) .g) = (0 : Int32)) (hd49_5_5_54_19 : (cmpValue (FP.dcmp x1 x1) .l) = (0 : Int32)) (hd2_1_64_5_5_54_19 : (cmpValue (FP.dcmp x1 x1) .l) = (0 : Int32)) (hd2_1_70_5_5_54_19 : (cmpValue (FP.dcmp x1 x1) .l) = (0 : Int32)) (nn75_19 : Jvm.Free.Fl.NoNaN64 (FP.ddiv x1 x1)) (nn87_19 : Jvm.Free.Fl.NoNaN64 (FP.ddiv x1 x0)) (hc89_19 : ¬ ((0 : Int32) < (cmpValue (FP.dcmp (FP.ddiv x1 x1) (FP.ddiv x1 x0)) .l))) :
    MetFree l (⟨"com/example/hedgeway/hedgeway/routing/Lambdas", "between", "(DDD)D"⟩ : MethodName) (head1 (Jvm.Cond.code (⟨"com/example/hedgeway/hedgeway/routing/Lambdas", "between", "(DDD)D"⟩ : MethodName) prog_29_method_5_code 9 (some .double) :: ws) ({ frames := 6, cells := 0, slots := 0, locals := 105 } : Room)) (fun a U => a = #[(.ref o0), (.double lo), (.double hi), (.double wn)] ∧ Z.Warmed39 U.vm ∧ U.heap = h0) (fun _ _ _ _ _ => True) (fun _ U o U' => ∃ v L, o = .returned v ∧ Q_bt1 Z o0 s0 kA eb x0 x1 x2 lo hi wn um h0 n0 v U'.heap L ∧ FrameEnd U o U' L ({ frames := 6, cells := 0, slots := 0, locals := 105 } : Room).cells ({ frames := 6, cells := 0, slots := 0, locals := 105 } : Room).slots) := by
  refine MetFree.of_bodySF (plainFor_of_name pn_com_example_hedgeway_hedgeway_routing_Lambdas) hisR ?_
  intro p e s m args below meth c s₁ Bd hml0 hP hK
  obtain ⟨rfl, hZ, hh⟩ := hP
  have hx := Bd.exec
  have hby := Bd.bytes
  have hml : c.maxLocals = 9 := hml0
  have hown : s.vm.findClass "com/example/hedgeway/hedgeway/routing/Lambdas" = some m.cls := findClass_of_methodNamed Bd.named
  have hnm := (name_of_methodNamed Bd.named Bd.method).1
  have X0 : Stand p l e ({ frames := 6, cells := 0, slots := 0, locals := 105 } : Room) s m #[(.ref o0), (.double lo), (.double hi), (.double wn)] below meth c s₁ [] 0 0 := Stand.of_body Bd
  have e0 : s₁.heap = h0 := by rw [← hh, Bd.state]; rfl
  have N0 := Fr.nil n0
  have pre0 : ∀ t, Steps p.tables e below (s₁.setTop (mkF m 0 #[.val (.ref o0), .val (.double lo), .second, .val (.double hi), .second, .val (.double wn), .second, .unset, .unset] [])) t → Steps p.tables e below (s₁.setTop (entryFrame m #[(.ref o0), (.double lo), (.double hi), (.double wn)] 9)) t := fun t k => castTop (ef_6_RDDD m o0 lo hi wn) k
  obtain ⟨T1, X1, e1, st1⟩ := getF X0 hx hZ hown (host := "") (Or.inl (hw _ (List.mem_of_getElem? (i := 22) rfl))) Via.refl e0 F_grid_o0 (g := (mkF m 1 #[.val (.ref o0), .val (.double lo), .second, .val (.double hi), .second, .val (.double wn), .second, .unset, .unset] [(.ref o0)])) rfl rfl (hb hby d6_1)
  obtain ⟨cq2, q2, q2'⟩ := E_o0.cell
  obtain ⟨_, _, ⟨T2, L2, k2, n2⟩, -, X2, ⟨Lc2, hQ2, l2, y2, z2⟩, st2⟩ := X1.privateBack hx (y := (⟨"com/example/hedgeway/hedgeway/routing/Lambdas", "nearestBetween", "(DDD)D"⟩ : MethodName)) hown (mvT hZ (hw _ (List.mem_of_getElem? (i := 42) rfl))) (mvT hZ (hw _ (List.mem_of_getElem? (i := 43) rfl))) (mvT hZ (own_selp (by decide) (hw _ (List.mem_of_getElem? (i := 6) rfl)) (hw _ (List.mem_of_getElem? (i := 44) rfl)) (hw _ (List.mem_of_getElem? (i := 43) rfl)))) (Cond.privateMethod_at (mvP hZ (hw _ (List.mem_of_getElem? (i := 44) rfl)) (args := #[]))) (mvT hZ (hw _ (List.mem_of_getElem? (i := 45) rfl))) (by decide) (backOf (W := 0) (nb1 l Z a0 hw [] o0 s0 kA eb x0 x1 x2 lo hi wn um h0 n0 Z0 F_grid_o0 F_errorBound_o0 E_o0 V_s0 hmin_19 hd33_5_5_2_19 hd49_5_5_2_19 hd33_1_5_5_2_19 hd49_1_5_5_2_19 hd33_5_5_9_19 hd33_1_5_5_9_19 nna36_19 nnb36_19 hq36_19 nna46_19 nnb46_19 hd33_5_5_54_19 hd49_5_5_54_19 hd2_1_64_5_5_54_19 hd2_1_70_5_5_54_19 nn75_19 nn87_19 hc89_19) hZ (hw _ (List.mem_of_getElem? (i := 45) rfl)) (hw _ (List.mem_of_getElem? (i := 3) rfl)) (by decide) (by decide)) (g := (mkF m 19 #[.val (.ref o0), .val (.double lo), .second, .val (.double hi), .second, .val (.double wn), .second, .unset, .unset] [(.double wn), (.double hi), (.double lo), (.ref o0)])) rfl (by rw [hml]; rfl) (Steps.refl _) (a := o0) (by rw [e1]; exact q2) q2' (argsL := [(.double lo), (.double hi), (.double wn)]) (rest := []) (lenOf pd_6 rfl) rfl (by show 2 * 0 + _ ≤ _; exact Nat.le_of_eq rfl) (hb hby d6_19) (fun _ _ => ⟨rfl, e1, (by decide : 0 + 0 ≤ _), (by decide : 0 + 0 ≤ _)⟩)
  dsimp only [Pt.U, Pt.locs, Pt.cells, Pt.slots] at X2 l2 y2 z2 st2 hQ2
  subst l2 y2 z2
  obtain ⟨rfl, N2q, eh2⟩ := hQ2
  have N2 := Fr.app N0 N2q
  have e2 : T2.heap = h0 := eh2
  obtain ⟨fs, hr, hrun, hended, hW, hsame⟩ := X2.leave (v := some (.double x1)) (fun h => by rw [Bd.returns] at h; cases h)
  refine ⟨_, _, pre0 _ ?_, hrun, hended, _, _, rfl, ?_, ⟨_, rfl⟩, hW, hsame.mono (by decide) (by decide)⟩
  · show Steps p.tables e below (s₁.setTop (mkF m 0 #[.val (.ref o0), .val (.double lo), .second, .val (.double hi), .second, .val (.double wn), .second, .unset, .unset] [])) _
    refine XS.aloadN X0.here hx rfl (hb hby d6_0) rfl rfl ?_
    show Steps p.tables e below (s₁.setTop (mkF m 1 #[.val (.ref o0), .val (.double lo), .second, .val (.double hi), .second, .val (.double wn), .second, .unset, .unset] [(.ref o0)])) _
    refine st1 _ ?_
    show Steps p.tables e below (T1.setTop (mkF m 4 #[.val (.ref o0), .val (.double lo), .second, .val (.double hi), .second, .val (.double wn), .second, .unset, .unset] [(.ref s0)])) _
    refine XS.ifnonnullYes X1.here hx rfl (pc0 := 4) (pc' := 14) rfl (hb hby d6_4) rfl (by decide) (by decide) ?_
    show Steps p.tables e below (T1.setTop (mkF m 14 #[.val (.ref o0), .val (.double lo), .second, .val (.double hi), .second, .val (.double wn), .second, .unset, .unset] [])) _
    refine XS.aloadN X1.here hx rfl (hb hby d6_14) rfl rfl ?_
    show Steps p.tables e below (T1.setTop (mkF m 15 #[.val (.ref o0), .val (.double lo), .second, .val (.double hi), .second, .val (.double wn), .second, .unset, .unset] [(.ref o0)])) _
    refine XS.dloadN X1.here hx rfl (hb hby d6_15) rfl ?_
    show Steps p.tables e below (T1.setTop (mkF m 16 #[.val (.ref o0), .val (.double lo), .second, .val (.double hi), .second, .val (.double wn), .second, .unset, .unset] [(.double lo), (.ref o0)])) _
    refine XS.dloadN X1.here hx rfl (hb hby d6_16) rfl ?_
    show Steps p.tables e below (T1.setTop (mkF m 17 #[.val (.ref o0), .val (.double lo), .second, .val (.double hi), .second, .val (.double wn), .second, .unset, .unset] [(.double hi), (.double lo), (.ref o0)])) _
    refine XS.dload X1.here hx rfl (hb hby d6_17) rfl ?_
    show Steps p.tables e below (T1.setTop (mkF m 19 #[.val (.ref o0), .val (.double lo), .second, .val (.double hi), .second, .val (.double wn), .second, .unset, .unset] [(.double wn), (.double hi), (.double lo), (.ref o0)])) _
    refine st2.trans ?_
    show Steps p.tables e below (T2.setTop (mkF m 22 #[.val (.ref o0), .val (.double lo), .second, .val (.double hi), .second, .val (.double wn), .second, .unset, .unset] [(.double x1)])) _
    refine XS.dstore X2.here hx rfl (hb hby d6_22) rfl (l' := #[.val (.ref o0), .val (.double lo), .second, .val (.double hi), .second, .val (.double wn), .second, .val (.double x1), .second]) rfl ?_
    show Steps p.tables e below (T2.setTop (mkF m 24 #[.val (.ref o0), .val (.double lo), .second, .val (.double hi), .second, .val (.double wn), .second, .val (.double x1), .second] [])) _
    refine XS.dload X2.here hx rfl (hb hby d6_24) rfl ?_
    show Steps p.tables e below (T2.setTop (mkF m 26 #[.val (.ref o0), .val (.double lo), .second, .val (.double hi), .second, .val (.double wn), .second, .val (.double x1), .second] [(.double x1)])) _
    exact retOut X2 hx Bd.returns rfl (Or.inr (Or.inr (Or.inl ⟨rfl, rfl, _, rfl⟩))) (hb hby d6_26) hr
  · show Q_bt1 Z o0 s0 kA eb x0 x1 x2 lo hi wn um h0 n0 _ T2.heap _
    rw [e2]
    exact ⟨rfl, N2, rfl⟩
def Q_nb2 (Z : State) (o0 : Addr) (s0 : Addr) (kA : ClassId) (eb : UInt64) (x0 : UInt64) (x1 : UInt64) (x2 : UInt64) (lo : UInt64) (hi : UInt64) (wn : UInt64) (um : UInt64) (h0 : Heap) (n0 : Nat) (v : Option Value) (h : Heap) (L : List Loc) : Prop := v = some (.double x2) ∧ Fr n0 L ∧ h = h0
set_option maxRecDepth 65536 in
set_option maxHeartbeats 40000000 in
theorem nb2 (l : Launch) (Z : State) (a0 : Array Value) (hw : ∀ d ∈ tables_1, d.before a0 Z = true) (ws : List Jvm.Cond) (o0 : Addr) (s0 : Addr) (kA : ClassId) (eb : UInt64) (x0 : UInt64) (x1 : UInt64) (x2 : UInt64) (lo : UInt64) (hi : UInt64) (wn : UInt64) (um : UInt64) (h0 : Heap) (n0 : Nat) (Z0 : n0 ≤ h0.size) (F_grid_o0 : Fld Z h0 o0 "com/example/hedgeway/hedgeway/routing/Lambdas" "grid" "[D" (.ref s0)) (F_errorBound_o0 : Fld Z h0 o0 "com/example/hedgeway/hedgeway/routing/Lambdas" "errorBound" "D" (.double eb)) (E_o0 : Exa Z h0 o0 "com/example/hedgeway/hedgeway/routing/Lambdas") (V_s0 : Arv Z h0 s0 kA .double (3 : Int32) [(.double x0), (.double x1), (.double x2)] (.double (0 : UInt64))) (hmin : (Native.java_lang_Math.nans.pick64 false um x2) = x2) (hd33_5_5_2 : (cmpValue (FP.dcmp x1 lo) .g) = (1 : Int32)) (hd49_5_5_2 : (cmpValue (FP.dcmp x1 lo) .l) = (1 : Int32)) (hd33_1_5_5_2 : (cmpValue (FP.dcmp x0 lo) .g) = (1 : Int32)) (hd49_1_5_5_2 : (cmpValue (FP.dcmp x0 lo) .l) = (1 : Int32)) (hd33_5_5_9 : (cmpValue (FP.dcmp x1 hi) .g) = (-1 : Int32)) (hd33_1_5_5_9 : (cmpValue (FP.dcmp x2 hi) .g) = (-1 : Int32)) (nna36 : Jvm.Free.Fl.NoNaN64 wn) (nnb36 : Jvm.Free.Fl.NoNaN64 x0) (hq36 : (Native.java_lang_Math.nans.pick64 true wn x0) = um) (nna46 : Jvm.Free.Fl.NoNaN64 um) (nnb46 : Jvm.Free.Fl.NoNaN64 x2) (hd33_5_5_54 : (cmpValue (FP.dcmp x1 x2) .g) = (-1 : Int32)) (hd33_1_5_5_54 : (cmpValue (FP.dcmp x2 x2) .g) = (0 : Int32)) (hd49_5_5_54 : (cmpValue (FP.dcmp x2 x2) .l) = (0 : Int32)) (hd2_1_64_5_5_54 : (cmpValue (FP.dcmp x2 x2) .l) = (0 : Int32)) (hd2_1_70_5_5_54 : (cmpValue (FP.dcmp x2 x2) .l) = (0 : Int32)) (nn75 : Jvm.Free.Fl.NoNaN64 (FP.ddiv x2 x2)) (nn87 : Jvm.Free.Fl.NoNaN64 (FP.ddiv x2 x1)) (hc89 : ¬ ((0 : Int32) < (cmpValue (FP.dcmp (FP.ddiv x2 x2) (FP.ddiv x2 x1)) .l))) :
    MetFree l (⟨"com/example/hedgeway/hedgeway/routing/Lambdas", "nearestBetween", "(DDD)D"⟩ : MethodName) (head1 (Jvm.Cond.code (⟨"com/example/hedgeway/hedgeway/routing/Lambdas", "nearestBetween", "(DDD)D"⟩ : MethodName) prog_29_method_6_code 12 (some .double) :: ws) ({ frames := 5, cells := 0, slots := 0, locals := 82 } : Room)) (fun a U => a = #[(.ref o0), (.double lo), (.double hi), (.double wn)] ∧ Z.Warmed39 U.vm ∧ U.heap = h0) (fun _ _ _ _ _ => True) (fun _ U o U' => ∃ v L, o = .returned v ∧ Q_nb2 Z o0 s0 kA eb x0 x1 x2 lo hi wn um h0 n0 v U'.heap L ∧ FrameEnd U o U' L ({ frames := 5, cells := 0, slots := 0, locals := 82 } : Room).cells ({ frames := 5, cells := 0, slots := 0, locals := 82 } : Room).slots) := by
  refine MetFree.of_bodySF (plainFor_of_name pn_com_example_hedgeway_hedgeway_routing_Lambdas) hisR ?_
  intro p e s m args below meth c s₁ Bd hml0 hP hK
  obtain ⟨rfl, hZ, hh⟩ := hP
  have hx := Bd.exec
  have hby := Bd.bytes
  have hml : c.maxLocals = 12 := hml0
  have hown : s.vm.findClass "com/example/hedgeway/hedgeway/routing/Lambdas" = some m.cls := findClass_of_methodNamed Bd.named
  have hnm := (name_of_methodNamed Bd.named Bd.method).1
  have X0 : Stand p l e ({ frames := 5, cells := 0, slots := 0, locals := 82 } : Room) s m #[(.ref o0), (.double lo), (.double hi), (.double wn)] below meth c s₁ [] 0 0 := Stand.of_body Bd
  have e0 : s₁.heap = h0 := by rw [← hh, Bd.state]; rfl
  have N0 := Fr.nil n0
  have pre0 : ∀ t, Steps p.tables e below (s₁.setTop (mkF m 0 #[.val (.ref o0), .val (.double lo), .second, .val (.double hi), .second, .val (.double wn), .second, .unset, .unset, .unset, .unset, .unset] [])) t → Steps p.tables e below (s₁.setTop (entryFrame m #[(.ref o0), (.double lo), (.double hi), (.double wn)] 12)) t := fun t k => castTop (ef_7_RDDD m o0 lo hi wn) k
  obtain ⟨cq1, q1, q1'⟩ := E_o0.cell
  obtain ⟨_, _, ⟨T1, L1, k1, n1⟩, -, X1, ⟨Lc1, hQ1, l1, y1, z1⟩, st1⟩ := X0.privateBack hx (y := (⟨"com/example/hedgeway/hedgeway/routing/Lambdas", "firstAbove", "(D)I"⟩ : MethodName)) hown (mvT hZ (hw _ (List.mem_of_getElem? (i := 46) rfl))) (mvT hZ (hw _ (List.mem_of_getElem? (i := 47) rfl))) (mvT hZ (own_selp (by decide) (hw _ (List.mem_of_getElem? (i := 6) rfl)) (hw _ (List.mem_of_getElem? (i := 48) rfl)) (hw _ (List.mem_of_getElem? (i := 47) rfl)))) (Cond.privateMethod_at (mvP hZ (hw _ (List.mem_of_getElem? (i := 48) rfl)) (args := #[]))) (mvT hZ (hw _ (List.mem_of_getElem? (i := 49) rfl))) (by decide) (backOf (W := 0) (fab l Z a0 hw [] o0 s0 kA eb x0 x1 x2 lo h0 n0 Z0 F_grid_o0 F_errorBound_o0 E_o0 V_s0 hd33_5_5_2 hd49_5_5_2 hd33_1_5_5_2 hd49_1_5_5_2) hZ (hw _ (List.mem_of_getElem? (i := 49) rfl)) (hw _ (List.mem_of_getElem? (i := 3) rfl)) (by decide) (by decide)) (g := (mkF m 2 #[.val (.ref o0), .val (.double lo), .second, .val (.double hi), .second, .val (.double wn), .second, .unset, .unset, .unset, .unset, .unset] [(.double lo), (.ref o0)])) rfl (by rw [hml]; rfl) (Steps.refl _) (a := o0) (by rw [e0]; exact q1) q1' (argsL := [(.double lo)]) (rest := []) (lenOf pd_4 rfl) rfl (by show 2 * 0 + _ ≤ _; exact Nat.le_of_eq rfl) (hb hby d7_2) (fun _ _ => ⟨rfl, e0, (by decide : 0 + 0 ≤ _), (by decide : 0 + 0 ≤ _)⟩)
  dsimp only [Pt.U, Pt.locs, Pt.cells, Pt.slots] at X1 l1 y1 z1 st1 hQ1
  subst l1 y1 z1
  obtain ⟨rfl, N1q, eh1⟩ := hQ1
  have N1 := Fr.app N0 N1q
  have e1 : T1.heap = h0 := eh1
  obtain ⟨cq2, q2, q2'⟩ := E_o0.cell
  obtain ⟨_, _, ⟨T2, L2, k2, n2⟩, -, X2, ⟨Lc2, hQ2, l2, y2, z2⟩, st2⟩ := X1.privateBack hx (y := (⟨"com/example/hedgeway/hedgeway/routing/Lambdas", "firstAtLeast", "(D)I"⟩ : MethodName)) hown (mvT hZ (hw _ (List.mem_of_getElem? (i := 57) rfl))) (mvT hZ (hw _ (List.mem_of_getElem? (i := 58) rfl))) (mvT hZ (own_selp (by decide) (hw _ (List.mem_of_getElem? (i := 6) rfl)) (hw _ (List.mem_of_getElem? (i := 59) rfl)) (hw _ (List.mem_of_getElem? (i := 58) rfl)))) (Cond.privateMethod_at (mvP hZ (hw _ (List.mem_of_getElem? (i := 59) rfl)) (args := #[]))) (mvT hZ (hw _ (List.mem_of_getElem? (i := 60) rfl))) (by decide) (backOf (W := 0) (falhi l Z a0 hw [] o0 s0 kA eb x0 x1 x2 hi h0 n0 Z0 F_grid_o0 F_errorBound_o0 E_o0 V_s0 hd33_5_5_9 hd33_1_5_5_9) hZ (hw _ (List.mem_of_getElem? (i := 60) rfl)) (hw _ (List.mem_of_getElem? (i := 3) rfl)) (by decide) (by decide)) (g := (mkF m 9 #[.val (.ref o0), .val (.double lo), .second, .val (.double hi), .second, .val (.double wn), .second, .val (.int (0 : Int32)), .unset, .unset, .unset, .unset] [(.double hi), (.ref o0)])) rfl (by rw [hml]; rfl) (Steps.refl _) (a := o0) (by rw [e1]; exact q2) q2' (argsL := [(.double hi)]) (rest := []) (lenOf pd_4 rfl) rfl (by show 2 * 0 + _ ≤ _; exact Nat.le_of_eq rfl) (hb hby d7_9) (fun _ _ => ⟨rfl, e1, (by decide : 0 + 0 ≤ _), (by decide : 0 + 0 ≤ _)⟩)
  dsimp only [Pt.U, Pt.locs, Pt.cells, Pt.slots] at X2 l2 y2 z2 st2 hQ2
  subst l2 y2 z2
  obtain ⟨rfl, N2q, eh2⟩ := hQ2
  have N2 := Fr.app N1 N2q
  have e2 : T2.heap = h0 := eh2
  obtain ⟨T3, X3, e3, st3⟩ := getF X2 hx hZ hown (host := "") (Or.inl (hw _ (List.mem_of_getElem? (i := 22) rfl))) Via.refl e2 F_grid_o0 (g := (mkF m 30 #[.val (.ref o0), .val (.double lo), .second, .val (.double hi), .second, .val (.double wn), .second, .val (.int (0 : Int32)), .val (.int (2 : Int32)), .unset, .unset, .unset] [(.ref o0), (.double wn)])) rfl rfl (hb hby d7_30)
  obtain ⟨cq4, Arq4, -, Sq4, -, Hq4, -⟩ := id V_s0
  obtain ⟨T5, X5, e5, st5⟩ := natS X3 hx hZ (y := (⟨"java/lang/Math", "max", "(DD)D"⟩ : MethodName)) hown (hw _ (List.mem_of_getElem? (i := 61) rfl)) (hw _ (List.mem_of_getElem? (i := 62) rfl)) (hw _ (List.mem_of_getElem? (i := 63) rfl)) (hw _ (List.mem_of_getElem? (i := 64) rfl)) (by decide) e3 (W := 0) (F := fun a' => a' = #[(.double wn), (.double x0)] ∧ Jvm.Free.Fl.NoNaN64 wn ∧ Jvm.Free.Fl.NoNaN64 x0) (val := .double (Native.java_lang_Math.nans.pick64 true wn x0)) (val' := .double um) (fun c4 => Jvm.Free.Fl.Abs.maxD_pays wn x0 c4 (by decide) (by decide)) (g := (mkF m 36 #[.val (.ref o0), .val (.double lo), .second, .val (.double hi), .second, .val (.double wn), .second, .val (.int (0 : Int32)), .val (.int (2 : Int32)), .unset, .unset, .unset] [(.double x0), (.double wn)])) rfl (by rw [hml]; rfl) (argsL := [(.double wn), (.double x0)]) (rest := []) (lenOf pd_5 rfl) rfl (by show 2 * 0 + _ ≤ _; exact Nat.le_of_eq rfl) (hb hby d7_36) (by decide) (by decide) ⟨rfl, nna36, nnb36⟩ (congrArg Value.double hq36)
  obtain ⟨T6, X6, e6, st6⟩ := getF X5 hx hZ hown (host := "") (Or.inl (hw _ (List.mem_of_getElem? (i := 22) rfl))) Via.refl e5 F_grid_o0 (g := (mkF m 40 #[.val (.ref o0), .val (.double lo), .second, .val (.double hi), .second, .val (.double wn), .second, .val (.int (0 : Int32)), .val (.int (2 : Int32)), .unset, .unset, .unset] [(.ref o0), (.double um)])) rfl rfl (hb hby d7_40)
  obtain ⟨cq7, Arq7, -, Sq7, -, Hq7, -⟩ := id V_s0
  obtain ⟨T8, X8, e8, st8⟩ := natS X6 hx hZ (y := (⟨"java/lang/Math", "min", "(DD)D"⟩ : MethodName)) hown (hw _ (List.mem_of_getElem? (i := 65) rfl)) (hw _ (List.mem_of_getElem? (i := 66) rfl)) (hw _ (List.mem_of_getElem? (i := 63) rfl)) (hw _ (List.mem_of_getElem? (i := 67) rfl)) (by decide) e6 (W := 0) (F := fun a' => a' = #[(.double um), (.double x2)] ∧ Jvm.Free.Fl.NoNaN64 um ∧ Jvm.Free.Fl.NoNaN64 x2) (val := .double (Native.java_lang_Math.nans.pick64 false um x2)) (val' := .double x2) (fun c4 => Jvm.Free.Fl.Abs.minD_pays um x2 c4 (by decide) (by decide)) (g := (mkF m 46 #[.val (.ref o0), .val (.double lo), .second, .val (.double hi), .second, .val (.double wn), .second, .val (.int (0 : Int32)), .val (.int (2 : Int32)), .unset, .unset, .unset] [(.double x2), (.double um)])) rfl (by rw [hml]; rfl) (argsL := [(.double um), (.double x2)]) (rest := []) (lenOf pd_5 rfl) rfl (by show 2 * 0 + _ ≤ _; exact Nat.le_of_eq rfl) (hb hby d7_46) (by decide) (by decide) ⟨rfl, nna46, nnb46⟩ (congrArg Value.double hmin)
  obtain ⟨cq9, q9, q9'⟩ := E_o0.cell
  obtain ⟨_, _, ⟨T9, L9, k9, n9⟩, -, X9, ⟨Lc9, hQ9, l9, y9, z9⟩, st9⟩ := X8.privateBack hx (y := (⟨"com/example/hedgeway/hedgeway/routing/Lambdas", "firstAtLeast", "(D)I"⟩ : MethodName)) hown (mvT hZ (hw _ (List.mem_of_getElem? (i := 57) rfl))) (mvT hZ (hw _ (List.mem_of_getElem? (i := 58) rfl))) (mvT hZ (own_selp (by decide) (hw _ (List.mem_of_getElem? (i := 6) rfl)) (hw _ (List.mem_of_getElem? (i := 59) rfl)) (hw _ (List.mem_of_getElem? (i := 58) rfl)))) (Cond.privateMethod_at (mvP hZ (hw _ (List.mem_of_getElem? (i := 59) rfl)) (args := #[]))) (mvT hZ (hw _ (List.mem_of_getElem? (i := 60) rfl))) (by decide) (backOf (W := 0) (fal2 l Z a0 hw [] o0 s0 kA eb x0 x1 x2 h0 n0 Z0 F_grid_o0 F_errorBound_o0 E_o0 V_s0 hd33_5_5_54 hd33_1_5_5_54 hd49_5_5_54 hd2_1_64_5_5_54 hd2_1_70_5_5_54) hZ (hw _ (List.mem_of_getElem? (i := 60) rfl)) (hw _ (List.mem_of_getElem? (i := 3) rfl)) (by decide) (by decide)) (g := (mkF m 54 #[.val (.ref o0), .val (.double lo), .second, .val (.double hi), .second, .val (.double wn), .second, .val (.int (0 : Int32)), .val (.int (2 : Int32)), .val (.double x2), .second, .unset] [(.double x2), (.ref o0)])) rfl (by rw [hml]; rfl) (Steps.refl _) (a := o0) (by rw [e8]; exact q9) q9' (argsL := [(.double x2)]) (rest := []) (lenOf pd_4 rfl) rfl (by show 2 * 0 + _ ≤ _; exact Nat.le_of_eq rfl) (hb hby d7_54) (fun _ _ => ⟨rfl, e8, (by decide : 0 + 0 ≤ _), (by decide : 0 + 0 ≤ _)⟩)
  dsimp only [Pt.U, Pt.locs, Pt.cells, Pt.slots] at X9 l9 y9 z9 st9 hQ9
  subst l9 y9 z9
  obtain ⟨rfl, N9q, eh9⟩ := hQ9
  have N9 := Fr.app N2 N9q
  have e9 : T9.heap = h0 := eh9
  obtain ⟨T10, X10, e10, st10⟩ := getF X9 hx hZ hown (host := "") (Or.inl (hw _ (List.mem_of_getElem? (i := 22) rfl))) Via.refl e9 F_grid_o0 (g := (mkF m 67 #[.val (.ref o0), .val (.double lo), .second, .val (.double hi), .second, .val (.double wn), .second, .val (.int (0 : Int32)), .val (.int (2 : Int32)), .val (.double x2), .second, .val (.int (2 : Int32))] [(.ref o0)])) rfl rfl (hb hby d7_67)
  obtain ⟨cq11, Arq11, -, Sq11, -, Hq11, -⟩ := id V_s0
  obtain ⟨T12, X12, e12, st12⟩ := getF X10 hx hZ hown (host := "") (Or.inl (hw _ (List.mem_of_getElem? (i := 22) rfl))) Via.refl e10 F_grid_o0 (g := (mkF m 79 #[.val (.ref o0), .val (.double lo), .second, .val (.double hi), .second, .val (.double wn), .second, .val (.int (0 : Int32)), .val (.int (2 : Int32)), .val (.double x2), .second, .val (.int (2 : Int32))] [(.ref o0), (.double x2), (.double (FP.ddiv x2 x2))])) rfl rfl (hb hby d7_79)
  obtain ⟨cq13, Arq13, -, Sq13, -, Hq13, -⟩ := id V_s0
  obtain ⟨T14, X14, e14, st14⟩ := getF X12 hx hZ hown (host := "") (Or.inl (hw _ (List.mem_of_getElem? (i := 22) rfl))) Via.refl e12 F_grid_o0 (g := (mkF m 96 #[.val (.ref o0), .val (.double lo), .second, .val (.double hi), .second, .val (.double wn), .second, .val (.int (0 : Int32)), .val (.int (2 : Int32)), .val (.double x2), .second, .val (.int (2 : Int32))] [(.ref o0)])) rfl rfl (hb hby d7_96)
  obtain ⟨cq15, Arq15, -, Sq15, -, Hq15, -⟩ := id V_s0
  obtain ⟨fs, hr, hrun, hended, hW, hsame⟩ := X14.leave (v := some (.double x2)) (fun h => by rw [Bd.returns] at h; cases h)
  refine ⟨_, _, pre0 _ ?_, hrun, hended, _, _, rfl, ?_, ⟨_, rfl⟩, hW, hsame.mono (by decide) (by decide)⟩
  · show Steps p.tables e below (s₁.setTop (mkF m 0 #[.val (.ref o0), .val (.double lo), .second, .val (.double hi), .second, .val (.double wn), .second, .unset, .unset, .unset, .unset, .unset] [])) _
    refine XS.aloadN X0.here hx rfl (hb hby d7_0) rfl rfl ?_
    show Steps p.tables e below (s₁.setTop (mkF m 1 #[.val (.ref o0), .val (.double lo), .second, .val (.double hi), .second, .val (.double wn), .second, .unset, .unset, .unset, .unset, .unset] [(.ref o0)])) _
    refine XS.dloadN X0.here hx rfl (hb hby d7_1) rfl ?_
    show Steps p.tables e below (s₁.setTop (mkF m 2 #[.val (.ref o0), .val (.double lo), .second, .val (.double hi), .second, .val (.double wn), .second, .unset, .unset, .unset, .unset, .unset] [(.double lo), (.ref o0)])) _
    refine st1.trans ?_
    show Steps p.tables e below (T1.setTop (mkF m 5 #[.val (.ref o0), .val (.double lo), .second, .val (.double hi), .second, .val (.double wn), .second, .unset, .unset, .unset, .unset, .unset] [(.int (0 : Int32))])) _
    refine XS.istore X1.here hx rfl (hb hby d7_5) rfl (l' := #[.val (.ref o0), .val (.double lo), .second, .val (.double hi), .second, .val (.double wn), .second, .val (.int (0 : Int32)), .unset, .unset, .unset, .unset]) rfl ?_
    show Steps p.tables e below (T1.setTop (mkF m 7 #[.val (.ref o0), .val (.double lo), .second, .val (.double hi), .second, .val (.double wn), .second, .val (.int (0 : Int32)), .unset, .unset, .unset, .unset] [])) _
    refine XS.aloadN X1.here hx rfl (hb hby d7_7) rfl rfl ?_
    show Steps p.tables e below (T1.setTop (mkF m 8 #[.val (.ref o0), .val (.double lo), .second, .val (.double hi), .second, .val (.double wn), .second, .val (.int (0 : Int32)), .unset, .unset, .unset, .unset] [(.ref o0)])) _
    refine XS.dloadN X1.here hx rfl (hb hby d7_8) rfl ?_
    show Steps p.tables e below (T1.setTop (mkF m 9 #[.val (.ref o0), .val (.double lo), .second, .val (.double hi), .second, .val (.double wn), .second, .val (.int (0 : Int32)), .unset, .unset, .unset, .unset] [(.double hi), (.ref o0)])) _
    refine st2.trans ?_
    show Steps p.tables e below (T2.setTop (mkF m 12 #[.val (.ref o0), .val (.double lo), .second, .val (.double hi), .second, .val (.double wn), .second, .val (.int (0 : Int32)), .unset, .unset, .unset, .unset] [(.int (3 : Int32))])) _
    refine XS.iconst X2.here hx rfl (hb hby d7_12) ?_
    show Steps p.tables e below (T2.setTop (mkF m 13 #[.val (.ref o0), .val (.double lo), .second, .val (.double hi), .second, .val (.double wn), .second, .val (.int (0 : Int32)), .unset, .unset, .unset, .unset] [(.int (1 : Int32)), (.int (3 : Int32))])) _
    refine XS.isub X2.here hx rfl (hb hby d7_13) rfl ?_
    show Steps p.tables e below (T2.setTop (mkF m 14 #[.val (.ref o0), .val (.double lo), .second, .val (.double hi), .second, .val (.double wn), .second, .val (.int (0 : Int32)), .unset, .unset, .unset, .unset] [(.int ((3 : Int32) - (1 : Int32)))])) _
    rw [show ((3 : Int32) - (1 : Int32)) = (2 : Int32) by decide]
    show Steps p.tables e below (T2.setTop (mkF m 14 #[.val (.ref o0), .val (.double lo), .second, .val (.double hi), .second, .val (.double wn), .second, .val (.int (0 : Int32)), .unset, .unset, .unset, .unset] [(.int (2 : Int32))])) _
    refine XS.istore X2.here hx rfl (hb hby d7_14) rfl (l' := #[.val (.ref o0), .val (.double lo), .second, .val (.double hi), .second, .val (.double wn), .second, .val (.int (0 : Int32)), .val (.int (2 : Int32)), .unset, .unset, .unset]) rfl ?_
    show Steps p.tables e below (T2.setTop (mkF m 16 #[.val (.ref o0), .val (.double lo), .second, .val (.double hi), .second, .val (.double wn), .second, .val (.int (0 : Int32)), .val (.int (2 : Int32)), .unset, .unset, .unset] [])) _
    refine XS.iload X2.here hx rfl (hb hby d7_16) rfl ?_
    show Steps p.tables e below (T2.setTop (mkF m 18 #[.val (.ref o0), .val (.double lo), .second, .val (.double hi), .second, .val (.double wn), .second, .val (.int (0 : Int32)), .val (.int (2 : Int32)), .unset, .unset, .unset] [(.int (0 : Int32))])) _
    refine XS.iload X2.here hx rfl (hb hby d7_18) rfl ?_
    show Steps p.tables e below (T2.setTop (mkF m 20 #[.val (.ref o0), .val (.double lo), .second, .val (.double hi), .second, .val (.double wn), .second, .val (.int (0 : Int32)), .val (.int (2 : Int32)), .unset, .unset, .unset] [(.int (2 : Int32)), (.int (0 : Int32))])) _
    refine XS.icmpYes X2.here hx rfl (pc0 := 20) (pc' := 27) rfl (hb hby d7_20) rfl (flt (by decide : ¬ ((2 : Int32) < (0 : Int32)))).2.2.2 (by decide) (by decide) ?_
    show Steps p.tables e below (T2.setTop (mkF m 27 #[.val (.ref o0), .val (.double lo), .second, .val (.double hi), .second, .val (.double wn), .second, .val (.int (0 : Int32)), .val (.int (2 : Int32)), .unset, .unset, .unset] [])) _
    refine XS.dload X2.here hx rfl (hb hby d7_27) rfl ?_
    show Steps p.tables e below (T2.setTop (mkF m 29 #[.val (.ref o0), .val (.double lo), .second, .val (.double hi), .second, .val (.double wn), .second, .val (.int (0 : Int32)), .val (.int (2 : Int32)), .unset, .unset, .unset] [(.double wn)])) _
    refine XS.aloadN X2.here hx rfl (hb hby d7_29) rfl rfl ?_
    show Steps p.tables e below (T2.setTop (mkF m 30 #[.val (.ref o0), .val (.double lo), .second, .val (.double hi), .second, .val (.double wn), .second, .val (.int (0 : Int32)), .val (.int (2 : Int32)), .unset, .unset, .unset] [(.ref o0), (.double wn)])) _
    refine st3 _ ?_
    show Steps p.tables e below (T3.setTop (mkF m 33 #[.val (.ref o0), .val (.double lo), .second, .val (.double hi), .second, .val (.double wn), .second, .val (.int (0 : Int32)), .val (.int (2 : Int32)), .unset, .unset, .unset] [(.ref s0), (.double wn)])) _
    refine XS.iload X3.here hx rfl (hb hby d7_33) rfl ?_
    show Steps p.tables e below (T3.setTop (mkF m 35 #[.val (.ref o0), .val (.double lo), .second, .val (.double hi), .second, .val (.double wn), .second, .val (.int (0 : Int32)), .val (.int (2 : Int32)), .unset, .unset, .unset] [(.int (0 : Int32)), (.ref s0), (.double wn)])) _
    refine X3.daload hx (j := (0 : Int32)) (v := (.double x0)) (by rw [e3]; exact Arq4.1) (State.isArrayOf_alike hZ.alike Arq4.2.1) Arq4.2.2 (inb_of Sq4 ⟨by decide, by decide⟩) (Has.at Hq4 (inb_of Sq4 ⟨by decide, by decide⟩) rfl) (g := (mkF m 35 #[.val (.ref o0), .val (.double lo), .second, .val (.double hi), .second, .val (.double wn), .second, .val (.int (0 : Int32)), .val (.int (2 : Int32)), .unset, .unset, .unset] [(.int (0 : Int32)), (.ref s0), (.double wn)])) rfl rfl (hb hby d7_35) _ ?_
    show Steps p.tables e below (T3.setTop (mkF m 36 #[.val (.ref o0), .val (.double lo), .second, .val (.double hi), .second, .val (.double wn), .second, .val (.int (0 : Int32)), .val (.int (2 : Int32)), .unset, .unset, .unset] [(.double x0), (.double wn)])) _
    refine st5 _ ?_
    show Steps p.tables e below (T5.setTop (mkF m 39 #[.val (.ref o0), .val (.double lo), .second, .val (.double hi), .second, .val (.double wn), .second, .val (.int (0 : Int32)), .val (.int (2 : Int32)), .unset, .unset, .unset] [(.double um)])) _
    refine XS.aloadN X5.here hx rfl (hb hby d7_39) rfl rfl ?_
    show Steps p.tables e below (T5.setTop (mkF m 40 #[.val (.ref o0), .val (.double lo), .second, .val (.double hi), .second, .val (.double wn), .second, .val (.int (0 : Int32)), .val (.int (2 : Int32)), .unset, .unset, .unset] [(.ref o0), (.double um)])) _
    refine st6 _ ?_
    show Steps p.tables e below (T6.setTop (mkF m 43 #[.val (.ref o0), .val (.double lo), .second, .val (.double hi), .second, .val (.double wn), .second, .val (.int (0 : Int32)), .val (.int (2 : Int32)), .unset, .unset, .unset] [(.ref s0), (.double um)])) _
    refine XS.iload X6.here hx rfl (hb hby d7_43) rfl ?_
    show Steps p.tables e below (T6.setTop (mkF m 45 #[.val (.ref o0), .val (.double lo), .second, .val (.double hi), .second, .val (.double wn), .second, .val (.int (0 : Int32)), .val (.int (2 : Int32)), .unset, .unset, .unset] [(.int (2 : Int32)), (.ref s0), (.double um)])) _
    refine X6.daload hx (j := (2 : Int32)) (v := (.double x2)) (by rw [e6]; exact Arq7.1) (State.isArrayOf_alike hZ.alike Arq7.2.1) Arq7.2.2 (inb_of Sq7 ⟨by decide, by decide⟩) (Has.at Hq7 (inb_of Sq7 ⟨by decide, by decide⟩) rfl) (g := (mkF m 45 #[.val (.ref o0), .val (.double lo), .second, .val (.double hi), .second, .val (.double wn), .second, .val (.int (0 : Int32)), .val (.int (2 : Int32)), .unset, .unset, .unset] [(.int (2 : Int32)), (.ref s0), (.double um)])) rfl rfl (hb hby d7_45) _ ?_
    show Steps p.tables e below (T6.setTop (mkF m 46 #[.val (.ref o0), .val (.double lo), .second, .val (.double hi), .second, .val (.double wn), .second, .val (.int (0 : Int32)), .val (.int (2 : Int32)), .unset, .unset, .unset] [(.double x2), (.double um)])) _
    refine st8 _ ?_
    show Steps p.tables e below (T8.setTop (mkF m 49 #[.val (.ref o0), .val (.double lo), .second, .val (.double hi), .second, .val (.double wn), .second, .val (.int (0 : Int32)), .val (.int (2 : Int32)), .unset, .unset, .unset] [(.double x2)])) _
    refine XS.dstore X8.here hx rfl (hb hby d7_49) rfl (l' := #[.val (.ref o0), .val (.double lo), .second, .val (.double hi), .second, .val (.double wn), .second, .val (.int (0 : Int32)), .val (.int (2 : Int32)), .val (.double x2), .second, .unset]) rfl ?_
    show Steps p.tables e below (T8.setTop (mkF m 51 #[.val (.ref o0), .val (.double lo), .second, .val (.double hi), .second, .val (.double wn), .second, .val (.int (0 : Int32)), .val (.int (2 : Int32)), .val (.double x2), .second, .unset] [])) _
    refine XS.aloadN X8.here hx rfl (hb hby d7_51) rfl rfl ?_
    show Steps p.tables e below (T8.setTop (mkF m 52 #[.val (.ref o0), .val (.double lo), .second, .val (.double hi), .second, .val (.double wn), .second, .val (.int (0 : Int32)), .val (.int (2 : Int32)), .val (.double x2), .second, .unset] [(.ref o0)])) _
    refine XS.dload X8.here hx rfl (hb hby d7_52) rfl ?_
    show Steps p.tables e below (T8.setTop (mkF m 54 #[.val (.ref o0), .val (.double lo), .second, .val (.double hi), .second, .val (.double wn), .second, .val (.int (0 : Int32)), .val (.int (2 : Int32)), .val (.double x2), .second, .unset] [(.double x2), (.ref o0)])) _
    refine st9.trans ?_
    show Steps p.tables e below (T9.setTop (mkF m 57 #[.val (.ref o0), .val (.double lo), .second, .val (.double hi), .second, .val (.double wn), .second, .val (.int (0 : Int32)), .val (.int (2 : Int32)), .val (.double x2), .second, .unset] [(.int (2 : Int32))])) _
    refine XS.istore X9.here hx rfl (hb hby d7_57) rfl (l' := #[.val (.ref o0), .val (.double lo), .second, .val (.double hi), .second, .val (.double wn), .second, .val (.int (0 : Int32)), .val (.int (2 : Int32)), .val (.double x2), .second, .val (.int (2 : Int32))]) rfl ?_
    show Steps p.tables e below (T9.setTop (mkF m 59 #[.val (.ref o0), .val (.double lo), .second, .val (.double hi), .second, .val (.double wn), .second, .val (.int (0 : Int32)), .val (.int (2 : Int32)), .val (.double x2), .second, .val (.int (2 : Int32))] [])) _
    refine XS.iload X9.here hx rfl (hb hby d7_59) rfl ?_
    show Steps p.tables e below (T9.setTop (mkF m 61 #[.val (.ref o0), .val (.double lo), .second, .val (.double hi), .second, .val (.double wn), .second, .val (.int (0 : Int32)), .val (.int (2 : Int32)), .val (.double x2), .second, .val (.int (2 : Int32))] [(.int (2 : Int32))])) _
    refine XS.iload X9.here hx rfl (hb hby d7_61) rfl ?_
    show Steps p.tables e below (T9.setTop (mkF m 63 #[.val (.ref o0), .val (.double lo), .second, .val (.double hi), .second, .val (.double wn), .second, .val (.int (0 : Int32)), .val (.int (2 : Int32)), .val (.double x2), .second, .val (.int (2 : Int32))] [(.int (0 : Int32)), (.int (2 : Int32))])) _
    refine XS.icmpNo X9.here hx rfl (hb hby d7_63) rfl (tlt (by decide : (0 : Int32) < (2 : Int32))).2.2.2 ?_
    show Steps p.tables e below (T9.setTop (mkF m 66 #[.val (.ref o0), .val (.double lo), .second, .val (.double hi), .second, .val (.double wn), .second, .val (.int (0 : Int32)), .val (.int (2 : Int32)), .val (.double x2), .second, .val (.int (2 : Int32))] [])) _
    refine XS.aloadN X9.here hx rfl (hb hby d7_66) rfl rfl ?_
    show Steps p.tables e below (T9.setTop (mkF m 67 #[.val (.ref o0), .val (.double lo), .second, .val (.double hi), .second, .val (.double wn), .second, .val (.int (0 : Int32)), .val (.int (2 : Int32)), .val (.double x2), .second, .val (.int (2 : Int32))] [(.ref o0)])) _
    refine st10 _ ?_
    show Steps p.tables e below (T10.setTop (mkF m 70 #[.val (.ref o0), .val (.double lo), .second, .val (.double hi), .second, .val (.double wn), .second, .val (.int (0 : Int32)), .val (.int (2 : Int32)), .val (.double x2), .second, .val (.int (2 : Int32))] [(.ref s0)])) _
    refine XS.iload X10.here hx rfl (hb hby d7_70) rfl ?_
    show Steps p.tables e below (T10.setTop (mkF m 72 #[.val (.ref o0), .val (.double lo), .second, .val (.double hi), .second, .val (.double wn), .second, .val (.int (0 : Int32)), .val (.int (2 : Int32)), .val (.double x2), .second, .val (.int (2 : Int32))] [(.int (2 : Int32)), (.ref s0)])) _
    refine X10.daload hx (j := (2 : Int32)) (v := (.double x2)) (by rw [e10]; exact Arq11.1) (State.isArrayOf_alike hZ.alike Arq11.2.1) Arq11.2.2 (inb_of Sq11 ⟨by decide, by decide⟩) (Has.at Hq11 (inb_of Sq11 ⟨by decide, by decide⟩) rfl) (g := (mkF m 72 #[.val (.ref o0), .val (.double lo), .second, .val (.double hi), .second, .val (.double wn), .second, .val (.int (0 : Int32)), .val (.int (2 : Int32)), .val (.double x2), .second, .val (.int (2 : Int32))] [(.int (2 : Int32)), (.ref s0)])) rfl rfl (hb hby d7_72) _ ?_
    show Steps p.tables e below (T10.setTop (mkF m 73 #[.val (.ref o0), .val (.double lo), .second, .val (.double hi), .second, .val (.double wn), .second, .val (.int (0 : Int32)), .val (.int (2 : Int32)), .val (.double x2), .second, .val (.int (2 : Int32))] [(.double x2)])) _
    refine XS.dload X10.here hx rfl (hb hby d7_73) rfl ?_
    show Steps p.tables e below (T10.setTop (mkF m 75 #[.val (.ref o0), .val (.double lo), .second, .val (.double hi), .second, .val (.double wn), .second, .val (.int (0 : Int32)), .val (.int (2 : Int32)), .val (.double x2), .second, .val (.int (2 : Int32))] [(.double x2), (.double x2)])) _
    refine XS.ddivS X10.here hx rfl (hb hby d7_75) rfl nn75 (v := (FP.ddiv x2 x2)) rfl ?_
    show Steps p.tables e below (T10.setTop (mkF m 76 #[.val (.ref o0), .val (.double lo), .second, .val (.double hi), .second, .val (.double wn), .second, .val (.int (0 : Int32)), .val (.int (2 : Int32)), .val (.double x2), .second, .val (.int (2 : Int32))] [(.double (FP.ddiv x2 x2))])) _
    refine XS.dload X10.here hx rfl (hb hby d7_76) rfl ?_
    show Steps p.tables e below (T10.setTop (mkF m 78 #[.val (.ref o0), .val (.double lo), .second, .val (.double hi), .second, .val (.double wn), .second, .val (.int (0 : Int32)), .val (.int (2 : Int32)), .val (.double x2), .second, .val (.int (2 : Int32))] [(.double x2), (.double (FP.ddiv x2 x2))])) _
    refine XS.aloadN X10.here hx rfl (hb hby d7_78) rfl rfl ?_
    show Steps p.tables e below (T10.setTop (mkF m 79 #[.val (.ref o0), .val (.double lo), .second, .val (.double hi), .second, .val (.double wn), .second, .val (.int (0 : Int32)), .val (.int (2 : Int32)), .val (.double x2), .second, .val (.int (2 : Int32))] [(.ref o0), (.double x2), (.double (FP.ddiv x2 x2))])) _
    refine st12 _ ?_
    show Steps p.tables e below (T12.setTop (mkF m 82 #[.val (.ref o0), .val (.double lo), .second, .val (.double hi), .second, .val (.double wn), .second, .val (.int (0 : Int32)), .val (.int (2 : Int32)), .val (.double x2), .second, .val (.int (2 : Int32))] [(.ref s0), (.double x2), (.double (FP.ddiv x2 x2))])) _
    refine XS.iload X12.here hx rfl (hb hby d7_82) rfl ?_
    show Steps p.tables e below (T12.setTop (mkF m 84 #[.val (.ref o0), .val (.double lo), .second, .val (.double hi), .second, .val (.double wn), .second, .val (.int (0 : Int32)), .val (.int (2 : Int32)), .val (.double x2), .second, .val (.int (2 : Int32))] [(.int (2 : Int32)), (.ref s0), (.double x2), (.double (FP.ddiv x2 x2))])) _
    refine XS.iconst X12.here hx rfl (hb hby d7_84) ?_
    show Steps p.tables e below (T12.setTop (mkF m 85 #[.val (.ref o0), .val (.double lo), .second, .val (.double hi), .second, .val (.double wn), .second, .val (.int (0 : Int32)), .val (.int (2 : Int32)), .val (.double x2), .second, .val (.int (2 : Int32))] [(.int (1 : Int32)), (.int (2 : Int32)), (.ref s0), (.double x2), (.double (FP.ddiv x2 x2))])) _
    refine XS.isub X12.here hx rfl (hb hby d7_85) rfl ?_
    show Steps p.tables e below (T12.setTop (mkF m 86 #[.val (.ref o0), .val (.double lo), .second, .val (.double hi), .second, .val (.double wn), .second, .val (.int (0 : Int32)), .val (.int (2 : Int32)), .val (.double x2), .second, .val (.int (2 : Int32))] [(.int ((2 : Int32) - (1 : Int32))), (.ref s0), (.double x2), (.double (FP.ddiv x2 x2))])) _
    rw [show ((2 : Int32) - (1 : Int32)) = (1 : Int32) by decide]
    show Steps p.tables e below (T12.setTop (mkF m 86 #[.val (.ref o0), .val (.double lo), .second, .val (.double hi), .second, .val (.double wn), .second, .val (.int (0 : Int32)), .val (.int (2 : Int32)), .val (.double x2), .second, .val (.int (2 : Int32))] [(.int (1 : Int32)), (.ref s0), (.double x2), (.double (FP.ddiv x2 x2))])) _
    refine X12.daload hx (j := (1 : Int32)) (v := (.double x1)) (by rw [e12]; exact Arq13.1) (State.isArrayOf_alike hZ.alike Arq13.2.1) Arq13.2.2 (inb_of Sq13 ⟨by decide, by decide⟩) (Has.at Hq13 (inb_of Sq13 ⟨by decide, by decide⟩) rfl) (g := (mkF m 86 #[.val (.ref o0), .val (.double lo), .second, .val (.double hi), .second, .val (.double wn), .second, .val (.int (0 : Int32)), .val (.int (2 : Int32)), .val (.double x2), .second, .val (.int (2 : Int32))] [(.int (1 : Int32)), (.ref s0), (.double x2), (.double (FP.ddiv x2 x2))])) rfl rfl (hb hby d7_86) _ ?_
    show Steps p.tables e below (T12.setTop (mkF m 87 #[.val (.ref o0), .val (.double lo), .second, .val (.double hi), .second, .val (.double wn), .second, .val (.int (0 : Int32)), .val (.int (2 : Int32)), .val (.double x2), .second, .val (.int (2 : Int32))] [(.double x1), (.double x2), (.double (FP.ddiv x2 x2))])) _
    refine XS.ddivS X12.here hx rfl (hb hby d7_87) rfl nn87 (v := (FP.ddiv x2 x1)) rfl ?_
    show Steps p.tables e below (T12.setTop (mkF m 88 #[.val (.ref o0), .val (.double lo), .second, .val (.double hi), .second, .val (.double wn), .second, .val (.int (0 : Int32)), .val (.int (2 : Int32)), .val (.double x2), .second, .val (.int (2 : Int32))] [(.double (FP.ddiv x2 x1)), (.double (FP.ddiv x2 x2))])) _
    refine XS.dcmpS X12.here hx rfl (hb hby d7_88) rfl (v := (cmpValue (FP.dcmp (FP.ddiv x2 x2) (FP.ddiv x2 x1)) .l)) rfl ?_
    show Steps p.tables e below (T12.setTop (mkF m 89 #[.val (.ref o0), .val (.double lo), .second, .val (.double hi), .second, .val (.double wn), .second, .val (.int (0 : Int32)), .val (.int (2 : Int32)), .val (.double x2), .second, .val (.int (2 : Int32))] [(.int (cmpValue (FP.dcmp (FP.ddiv x2 x2) (FP.ddiv x2 x1)) .l))])) _
    refine XS.ifYes X12.here hx rfl (pc0 := 89) (pc' := 95) rfl (hb hby d7_89) rfl ((if0 _ _).trans (flt hc89).2.2.2) (by decide) (by decide) ?_
    show Steps p.tables e below (T12.setTop (mkF m 95 #[.val (.ref o0), .val (.double lo), .second, .val (.double hi), .second, .val (.double wn), .second, .val (.int (0 : Int32)), .val (.int (2 : Int32)), .val (.double x2), .second, .val (.int (2 : Int32))] [])) _
    refine XS.aloadN X12.here hx rfl (hb hby d7_95) rfl rfl ?_
    show Steps p.tables e below (T12.setTop (mkF m 96 #[.val (.ref o0), .val (.double lo), .second, .val (.double hi), .second, .val (.double wn), .second, .val (.int (0 : Int32)), .val (.int (2 : Int32)), .val (.double x2), .second, .val (.int (2 : Int32))] [(.ref o0)])) _
    refine st14 _ ?_
    show Steps p.tables e below (T14.setTop (mkF m 99 #[.val (.ref o0), .val (.double lo), .second, .val (.double hi), .second, .val (.double wn), .second, .val (.int (0 : Int32)), .val (.int (2 : Int32)), .val (.double x2), .second, .val (.int (2 : Int32))] [(.ref s0)])) _
    refine XS.iload X14.here hx rfl (hb hby d7_99) rfl ?_
    show Steps p.tables e below (T14.setTop (mkF m 101 #[.val (.ref o0), .val (.double lo), .second, .val (.double hi), .second, .val (.double wn), .second, .val (.int (0 : Int32)), .val (.int (2 : Int32)), .val (.double x2), .second, .val (.int (2 : Int32))] [(.int (2 : Int32)), (.ref s0)])) _
    refine X14.daload hx (j := (2 : Int32)) (v := (.double x2)) (by rw [e14]; exact Arq15.1) (State.isArrayOf_alike hZ.alike Arq15.2.1) Arq15.2.2 (inb_of Sq15 ⟨by decide, by decide⟩) (Has.at Hq15 (inb_of Sq15 ⟨by decide, by decide⟩) rfl) (g := (mkF m 101 #[.val (.ref o0), .val (.double lo), .second, .val (.double hi), .second, .val (.double wn), .second, .val (.int (0 : Int32)), .val (.int (2 : Int32)), .val (.double x2), .second, .val (.int (2 : Int32))] [(.int (2 : Int32)), (.ref s0)])) rfl rfl (hb hby d7_101) _ ?_
    show Steps p.tables e below (T14.setTop (mkF m 102 #[.val (.ref o0), .val (.double lo), .second, .val (.double hi), .second, .val (.double wn), .second, .val (.int (0 : Int32)), .val (.int (2 : Int32)), .val (.double x2), .second, .val (.int (2 : Int32))] [(.double x2)])) _
    exact retOut X14 hx Bd.returns rfl (Or.inr (Or.inr (Or.inl ⟨rfl, rfl, _, rfl⟩))) (hb hby d7_102) hr
  · show Q_nb2 Z o0 s0 kA eb x0 x1 x2 lo hi wn um h0 n0 _ T14.heap _
    rw [e14]
    exact ⟨rfl, N9, rfl⟩
def Q_bt2 (Z : State) (o0 : Addr) (s0 : Addr) (kA : ClassId) (eb : UInt64) (x0 : UInt64) (x1 : UInt64) (x2 : UInt64) (lo : UInt64) (hi : UInt64) (wn : UInt64) (um : UInt64) (h0 : Heap) (n0 : Nat) (v : Option Value) (h : Heap) (L : List Loc) : Prop := v = some (.double x2) ∧ Fr n0 L ∧ h = h0
set_option maxRecDepth 65536 in
set_option maxHeartbeats 40000000 in
theorem bt2 (l : Launch) (Z : State) (a0 : Array Value) (hw : ∀ d ∈ tables_1, d.before a0 Z = true) (ws : List Jvm.Cond) (o0 : Addr) (s0 : Addr) (kA : ClassId) (eb : UInt64) (x0 : UInt64) (x1 : UInt64) (x2 : UInt64) (lo : UInt64) (hi : UInt64) (wn : UInt64) (um : UInt64) (h0 : Heap) (n0 : Nat) (Z0 : n0 ≤ h0.size) (F_grid_o0 : Fld Z h0 o0 "com/example/hedgeway/hedgeway/routing/Lambdas" "grid" "[D" (.ref s0)) (F_errorBound_o0 : Fld Z h0 o0 "com/example/hedgeway/hedgeway/routing/Lambdas" "errorBound" "D" (.double eb)) (E_o0 : Exa Z h0 o0 "com/example/hedgeway/hedgeway/routing/Lambdas") (V_s0 : Arv Z h0 s0 kA .double (3 : Int32) [(.double x0), (.double x1), (.double x2)] (.double (0 : UInt64))) (hmin_19 : (Native.java_lang_Math.nans.pick64 false um x2) = x2) (hd33_5_5_2_19 : (cmpValue (FP.dcmp x1 lo) .g) = (1 : Int32)) (hd49_5_5_2_19 : (cmpValue (FP.dcmp x1 lo) .l) = (1 : Int32)) (hd33_1_5_5_2_19 : (cmpValue (FP.dcmp x0 lo) .g) = (1 : Int32)) (hd49_1_5_5_2_19 : (cmpValue (FP.dcmp x0 lo) .l) = (1 : Int32)) (hd33_5_5_9_19 : (cmpValue (FP.dcmp x1 hi) .g) = (-1 : Int32)) (hd33_1_5_5_9_19 : (cmpValue (FP.dcmp x2 hi) .g) = (-1 : Int32)) (nna36_19 : Jvm.Free.Fl.NoNaN64 wn) (nnb36_19 : Jvm.Free.Fl.NoNaN64 x0) (hq36_19 : (Native.java_lang_Math.nans.pick64 true wn x0) = um) (nna46_19 : Jvm.Free.Fl.NoNaN64 um) (nnb46_19 : Jvm.Free.Fl.NoNaN64 x2) (hd33_5_5_54_19 : (cmpValue (FP.dcmp x1 x2) .g) = (-1 : Int32)) (hd33_1_5_5_54_19 : (cmpValue (FP.dcmp x2 x2) .g) = (0 : Int32)) (hd49_5_5_54_19 : (cmpValue (FP.dcmp x2 x2) .l) = (0 : Int32)) (hd2_1_64_5_5_54_19 : (cmpValue (FP.dcmp x2 x2) .l) = (0 : Int32)) (hd2_1_70_5_5_54_19 : (cmpValue (FP.dcmp x2 x2) .l) = (0 : Int32)) (nn75_19 : Jvm.Free.Fl.NoNaN64 (FP.ddiv x2 x2)) (nn87_19 : Jvm.Free.Fl.NoNaN64 (FP.ddiv x2 x1)) (hc89_19 : ¬ ((0 : Int32) < (cmpValue (FP.dcmp (FP.ddiv x2 x2) (FP.ddiv x2 x1)) .l))) :
    MetFree l (⟨"com/example/hedgeway/hedgeway/routing/Lambdas", "between", "(DDD)D"⟩ : MethodName) (head1 (Jvm.Cond.code (⟨"com/example/hedgeway/hedgeway/routing/Lambdas", "between", "(DDD)D"⟩ : MethodName) prog_29_method_5_code 9 (some .double) :: ws) ({ frames := 6, cells := 0, slots := 0, locals := 105 } : Room)) (fun a U => a = #[(.ref o0), (.double lo), (.double hi), (.double wn)] ∧ Z.Warmed39 U.vm ∧ U.heap = h0) (fun _ _ _ _ _ => True) (fun _ U o U' => ∃ v L, o = .returned v ∧ Q_bt2 Z o0 s0 kA eb x0 x1 x2 lo hi wn um h0 n0 v U'.heap L ∧ FrameEnd U o U' L ({ frames := 6, cells := 0, slots := 0, locals := 105 } : Room).cells ({ frames := 6, cells := 0, slots := 0, locals := 105 } : Room).slots) := by
  refine MetFree.of_bodySF (plainFor_of_name pn_com_example_hedgeway_hedgeway_routing_Lambdas) hisR ?_
  intro p e s m args below meth c s₁ Bd hml0 hP hK
  obtain ⟨rfl, hZ, hh⟩ := hP
  have hx := Bd.exec
  have hby := Bd.bytes
  have hml : c.maxLocals = 9 := hml0
  have hown : s.vm.findClass "com/example/hedgeway/hedgeway/routing/Lambdas" = some m.cls := findClass_of_methodNamed Bd.named
  have hnm := (name_of_methodNamed Bd.named Bd.method).1
  have X0 : Stand p l e ({ frames := 6, cells := 0, slots := 0, locals := 105 } : Room) s m #[(.ref o0), (.double lo), (.double hi), (.double wn)] below meth c s₁ [] 0 0 := Stand.of_body Bd
  have e0 : s₁.heap = h0 := by rw [← hh, Bd.state]; rfl
  have N0 := Fr.nil n0
  have pre0 : ∀ t, Steps p.tables e below (s₁.setTop (mkF m 0 #[.val (.ref o0), .val (.double lo), .second, .val (.double hi), .second, .val (.double wn), .second, .unset, .unset] [])) t → Steps p.tables e below (s₁.setTop (entryFrame m #[(.ref o0), (.double lo), (.double hi), (.double wn)] 9)) t := fun t k => castTop (ef_6_RDDD m o0 lo hi wn) k
  obtain ⟨T1, X1, e1, st1⟩ := getF X0 hx hZ hown (host := "") (Or.inl (hw _ (List.mem_of_getElem? (i := 22) rfl))) Via.refl e0 F_grid_o0 (g := (mkF m 1 #[.val (.ref o0), .val (.double lo), .second, .val (.double hi), .second, .val (.double wn), .second, .unset, .unset] [(.ref o0)])) rfl rfl (hb hby d6_1)
  obtain ⟨cq2, q2, q2'⟩ := E_o0.cell
  obtain ⟨_, _, ⟨T2, L2, k2, n2⟩, -, X2, ⟨Lc2, hQ2, l2, y2, z2⟩, st2⟩ := X1.privateBack hx (y := (⟨"com/example/hedgeway/hedgeway/routing/Lambdas", "nearestBetween", "(DDD)D"⟩ : MethodName)) hown (mvT hZ (hw _ (List.mem_of_getElem? (i := 42) rfl))) (mvT hZ (hw _ (List.mem_of_getElem? (i := 43) rfl))) (mvT hZ (own_selp (by decide) (hw _ (List.mem_of_getElem? (i := 6) rfl)) (hw _ (List.mem_of_getElem? (i := 44) rfl)) (hw _ (List.mem_of_getElem? (i := 43) rfl)))) (Cond.privateMethod_at (mvP hZ (hw _ (List.mem_of_getElem? (i := 44) rfl)) (args := #[]))) (mvT hZ (hw _ (List.mem_of_getElem? (i := 45) rfl))) (by decide) (backOf (W := 0) (nb2 l Z a0 hw [] o0 s0 kA eb x0 x1 x2 lo hi wn um h0 n0 Z0 F_grid_o0 F_errorBound_o0 E_o0 V_s0 hmin_19 hd33_5_5_2_19 hd49_5_5_2_19 hd33_1_5_5_2_19 hd49_1_5_5_2_19 hd33_5_5_9_19 hd33_1_5_5_9_19 nna36_19 nnb36_19 hq36_19 nna46_19 nnb46_19 hd33_5_5_54_19 hd33_1_5_5_54_19 hd49_5_5_54_19 hd2_1_64_5_5_54_19 hd2_1_70_5_5_54_19 nn75_19 nn87_19 hc89_19) hZ (hw _ (List.mem_of_getElem? (i := 45) rfl)) (hw _ (List.mem_of_getElem? (i := 3) rfl)) (by decide) (by decide)) (g := (mkF m 19 #[.val (.ref o0), .val (.double lo), .second, .val (.double hi), .second, .val (.double wn), .second, .unset, .unset] [(.double wn), (.double hi), (.double lo), (.ref o0)])) rfl (by rw [hml]; rfl) (Steps.refl _) (a := o0) (by rw [e1]; exact q2) q2' (argsL := [(.double lo), (.double hi), (.double wn)]) (rest := []) (lenOf pd_6 rfl) rfl (by show 2 * 0 + _ ≤ _; exact Nat.le_of_eq rfl) (hb hby d6_19) (fun _ _ => ⟨rfl, e1, (by decide : 0 + 0 ≤ _), (by decide : 0 + 0 ≤ _)⟩)
  dsimp only [Pt.U, Pt.locs, Pt.cells, Pt.slots] at X2 l2 y2 z2 st2 hQ2
  subst l2 y2 z2
  obtain ⟨rfl, N2q, eh2⟩ := hQ2
  have N2 := Fr.app N0 N2q
  have e2 : T2.heap = h0 := eh2
  obtain ⟨fs, hr, hrun, hended, hW, hsame⟩ := X2.leave (v := some (.double x2)) (fun h => by rw [Bd.returns] at h; cases h)
  refine ⟨_, _, pre0 _ ?_, hrun, hended, _, _, rfl, ?_, ⟨_, rfl⟩, hW, hsame.mono (by decide) (by decide)⟩
  · show Steps p.tables e below (s₁.setTop (mkF m 0 #[.val (.ref o0), .val (.double lo), .second, .val (.double hi), .second, .val (.double wn), .second, .unset, .unset] [])) _
    refine XS.aloadN X0.here hx rfl (hb hby d6_0) rfl rfl ?_
    show Steps p.tables e below (s₁.setTop (mkF m 1 #[.val (.ref o0), .val (.double lo), .second, .val (.double hi), .second, .val (.double wn), .second, .unset, .unset] [(.ref o0)])) _
    refine st1 _ ?_
    show Steps p.tables e below (T1.setTop (mkF m 4 #[.val (.ref o0), .val (.double lo), .second, .val (.double hi), .second, .val (.double wn), .second, .unset, .unset] [(.ref s0)])) _
    refine XS.ifnonnullYes X1.here hx rfl (pc0 := 4) (pc' := 14) rfl (hb hby d6_4) rfl (by decide) (by decide) ?_
    show Steps p.tables e below (T1.setTop (mkF m 14 #[.val (.ref o0), .val (.double lo), .second, .val (.double hi), .second, .val (.double wn), .second, .unset, .unset] [])) _
    refine XS.aloadN X1.here hx rfl (hb hby d6_14) rfl rfl ?_
    show Steps p.tables e below (T1.setTop (mkF m 15 #[.val (.ref o0), .val (.double lo), .second, .val (.double hi), .second, .val (.double wn), .second, .unset, .unset] [(.ref o0)])) _
    refine XS.dloadN X1.here hx rfl (hb hby d6_15) rfl ?_
    show Steps p.tables e below (T1.setTop (mkF m 16 #[.val (.ref o0), .val (.double lo), .second, .val (.double hi), .second, .val (.double wn), .second, .unset, .unset] [(.double lo), (.ref o0)])) _
    refine XS.dloadN X1.here hx rfl (hb hby d6_16) rfl ?_
    show Steps p.tables e below (T1.setTop (mkF m 17 #[.val (.ref o0), .val (.double lo), .second, .val (.double hi), .second, .val (.double wn), .second, .unset, .unset] [(.double hi), (.double lo), (.ref o0)])) _
    refine XS.dload X1.here hx rfl (hb hby d6_17) rfl ?_
    show Steps p.tables e below (T1.setTop (mkF m 19 #[.val (.ref o0), .val (.double lo), .second, .val (.double hi), .second, .val (.double wn), .second, .unset, .unset] [(.double wn), (.double hi), (.double lo), (.ref o0)])) _
    refine st2.trans ?_
    show Steps p.tables e below (T2.setTop (mkF m 22 #[.val (.ref o0), .val (.double lo), .second, .val (.double hi), .second, .val (.double wn), .second, .unset, .unset] [(.double x2)])) _
    refine XS.dstore X2.here hx rfl (hb hby d6_22) rfl (l' := #[.val (.ref o0), .val (.double lo), .second, .val (.double hi), .second, .val (.double wn), .second, .val (.double x2), .second]) rfl ?_
    show Steps p.tables e below (T2.setTop (mkF m 24 #[.val (.ref o0), .val (.double lo), .second, .val (.double hi), .second, .val (.double wn), .second, .val (.double x2), .second] [])) _
    refine XS.dload X2.here hx rfl (hb hby d6_24) rfl ?_
    show Steps p.tables e below (T2.setTop (mkF m 26 #[.val (.ref o0), .val (.double lo), .second, .val (.double hi), .second, .val (.double wn), .second, .val (.double x2), .second] [(.double x2)])) _
    exact retOut X2 hx Bd.returns rfl (Or.inr (Or.inr (Or.inl ⟨rfl, rfl, _, rfl⟩))) (hb hby d6_26) hr
  · show Q_bt2 Z o0 s0 kA eb x0 x1 x2 lo hi wn um h0 n0 _ T2.heap _
    rw [e2]
    exact ⟨rfl, N2, rfl⟩
theorem d4_0 : decode prog_29_method_3_code 0 = .ok (.aload_n 0, 1) := by decide +kernel
theorem d4_1 : decode prog_29_method_3_code 1 = .ok (.getfield 7, 3) := by decide +kernel
theorem d4_4 : decode prog_29_method_3_code 4 = .ok (.ifnull 7, 3) := by decide +kernel
theorem d4_7 : decode prog_29_method_3_code 7 = .ok (.iconst 1, 1) := by decide +kernel
theorem d4_8 : decode prog_29_method_3_code 8 = .ok (.goto 4, 3) := by decide +kernel
theorem d4_12 : decode prog_29_method_3_code 12 = .ok (.ireturn, 1) := by decide +kernel
theorem ef_4_R (m : MethodId) (x0 : Addr) : entryFrame m #[(.ref x0)] 1 = mkF m 0 #[.val (.ref x0)] [] := by first | (simp [entryFrame, mkF, argsToLocals, Value.category]; done) | rfl
def Q_isg (Z : State) (o0 : Addr) (s0 : Addr) (kA : ClassId) (eb : UInt64) (x0 : UInt64) (x1 : UInt64) (x2 : UInt64) (h0 : Heap) (n0 : Nat) (v : Option Value) (h : Heap) (L : List Loc) : Prop := v = some (.int (1 : Int32)) ∧ Fr n0 L ∧ h = h0
set_option maxRecDepth 65536 in
set_option maxHeartbeats 40000000 in
theorem isg (l : Launch) (Z : State) (a0 : Array Value) (hw : ∀ d ∈ tables_1, d.before a0 Z = true) (ws : List Jvm.Cond) (o0 : Addr) (s0 : Addr) (kA : ClassId) (eb : UInt64) (x0 : UInt64) (x1 : UInt64) (x2 : UInt64) (h0 : Heap) (n0 : Nat) (Z0 : n0 ≤ h0.size) (F_grid_o0 : Fld Z h0 o0 "com/example/hedgeway/hedgeway/routing/Lambdas" "grid" "[D" (.ref s0)) (F_errorBound_o0 : Fld Z h0 o0 "com/example/hedgeway/hedgeway/routing/Lambdas" "errorBound" "D" (.double eb)) (E_o0 : Exa Z h0 o0 "com/example/hedgeway/hedgeway/routing/Lambdas") (V_s0 : Arv Z h0 s0 kA .double (3 : Int32) [(.double x0), (.double x1), (.double x2)] (.double (0 : UInt64))) :
    MetFree l (⟨"com/example/hedgeway/hedgeway/routing/Lambdas", "isGrid", "()Z"⟩ : MethodName) (head1 (Jvm.Cond.code (⟨"com/example/hedgeway/hedgeway/routing/Lambdas", "isGrid", "()Z"⟩ : MethodName) prog_29_method_3_code 1 (some .boolean) :: ws) ({ frames := 0, cells := 0, slots := 0, locals := 0 } : Room)) (fun a U => a = #[(.ref o0)] ∧ Z.Warmed39 U.vm ∧ U.heap = h0) (fun _ _ _ _ _ => True) (fun _ U o U' => ∃ v L, o = .returned v ∧ Q_isg Z o0 s0 kA eb x0 x1 x2 h0 n0 v U'.heap L ∧ FrameEnd U o U' L ({ frames := 0, cells := 0, slots := 0, locals := 0 } : Room).cells ({ frames := 0, cells := 0, slots := 0, locals := 0 } : Room).slots) := by
  refine MetFree.of_bodySF (plainFor_of_name pn_com_example_hedgeway_hedgeway_routing_Lambdas) hisR ?_
  intro p e s m args below meth c s₁ Bd hml0 hP hK
  obtain ⟨rfl, hZ, hh⟩ := hP
  have hx := Bd.exec
  have hby := Bd.bytes
  have hml : c.maxLocals = 1 := hml0
  have hown : s.vm.findClass "com/example/hedgeway/hedgeway/routing/Lambdas" = some m.cls := findClass_of_methodNamed Bd.named
  have hnm := (name_of_methodNamed Bd.named Bd.method).1
  have X0 : Stand p l e ({ frames := 0, cells := 0, slots := 0, locals := 0 } : Room) s m #[(.ref o0)] below meth c s₁ [] 0 0 := Stand.of_body Bd
  have e0 : s₁.heap = h0 := by rw [← hh, Bd.state]; rfl
  have N0 := Fr.nil n0
  have pre0 : ∀ t, Steps p.tables e below (s₁.setTop (mkF m 0 #[.val (.ref o0)] [])) t → Steps p.tables e below (s₁.setTop (entryFrame m #[(.ref o0)] 1)) t := fun t k => castTop (ef_4_R m o0) k
  obtain ⟨T1, X1, e1, st1⟩ := getF X0 hx hZ hown (host := "") (Or.inl (hw _ (List.mem_of_getElem? (i := 22) rfl))) Via.refl e0 F_grid_o0 (g := (mkF m 1 #[.val (.ref o0)] [(.ref o0)])) rfl rfl (hb hby d4_1)
  obtain ⟨fs, hr, hrun, hended, hW, hsame⟩ := X1.leave (v := some (.int (1 : Int32))) (fun h => by rw [Bd.returns] at h; cases h)
  refine ⟨_, _, pre0 _ ?_, hrun, hended, _, _, rfl, ?_, ⟨_, rfl⟩, hW, hsame.mono (by decide) (by decide)⟩
  · show Steps p.tables e below (s₁.setTop (mkF m 0 #[.val (.ref o0)] [])) _
    refine XS.aloadN X0.here hx rfl (hb hby d4_0) rfl rfl ?_
    show Steps p.tables e below (s₁.setTop (mkF m 1 #[.val (.ref o0)] [(.ref o0)])) _
    refine st1 _ ?_
    show Steps p.tables e below (T1.setTop (mkF m 4 #[.val (.ref o0)] [(.ref s0)])) _
    refine XS.ifnullNo X1.here hx rfl (hb hby d4_4) rfl ?_
    show Steps p.tables e below (T1.setTop (mkF m 7 #[.val (.ref o0)] [])) _
    refine XS.iconst X1.here hx rfl (hb hby d4_7) ?_
    show Steps p.tables e below (T1.setTop (mkF m 8 #[.val (.ref o0)] [(.int (1 : Int32))])) _
    refine XS.goto X1.here hx rfl (pc0 := 8) (pc' := 12) rfl (hb hby d4_8) (by decide) (by decide) ?_
    show Steps p.tables e below (T1.setTop (mkF m 12 #[.val (.ref o0)] [(.int (1 : Int32))])) _
    exact retN X1 hx (t := .boolean) Bd.returns (by simp) (hb hby d4_12) hr
  · show Q_isg Z o0 s0 kA eb x0 x1 x2 h0 n0 _ T1.heap _
    rw [e1]
    exact ⟨rfl, N0, rfl⟩
theorem d5_0 : decode prog_29_method_4_code 0 = .ok (.aload_n 0, 1) := by decide +kernel
theorem d5_1 : decode prog_29_method_4_code 1 = .ok (.getfield 13, 3) := by decide +kernel
theorem d5_4 : decode prog_29_method_4_code 4 = .ok (.dreturn, 1) := by decide +kernel
theorem ef_5_R (m : MethodId) (x0 : Addr) : entryFrame m #[(.ref x0)] 1 = mkF m 0 #[.val (.ref x0)] [] := by first | (simp [entryFrame, mkF, argsToLocals, Value.category]; done) | rfl
def Q_erb (Z : State) (o0 : Addr) (s0 : Addr) (kA : ClassId) (eb : UInt64) (x0 : UInt64) (x1 : UInt64) (x2 : UInt64) (h0 : Heap) (n0 : Nat) (v : Option Value) (h : Heap) (L : List Loc) : Prop := v = some (.double eb) ∧ Fr n0 L ∧ h = h0
set_option maxRecDepth 65536 in
set_option maxHeartbeats 40000000 in
theorem erb (l : Launch) (Z : State) (a0 : Array Value) (hw : ∀ d ∈ tables_1, d.before a0 Z = true) (ws : List Jvm.Cond) (o0 : Addr) (s0 : Addr) (kA : ClassId) (eb : UInt64) (x0 : UInt64) (x1 : UInt64) (x2 : UInt64) (h0 : Heap) (n0 : Nat) (Z0 : n0 ≤ h0.size) (F_grid_o0 : Fld Z h0 o0 "com/example/hedgeway/hedgeway/routing/Lambdas" "grid" "[D" (.ref s0)) (F_errorBound_o0 : Fld Z h0 o0 "com/example/hedgeway/hedgeway/routing/Lambdas" "errorBound" "D" (.double eb)) (E_o0 : Exa Z h0 o0 "com/example/hedgeway/hedgeway/routing/Lambdas") (V_s0 : Arv Z h0 s0 kA .double (3 : Int32) [(.double x0), (.double x1), (.double x2)] (.double (0 : UInt64))) :
    MetFree l (⟨"com/example/hedgeway/hedgeway/routing/Lambdas", "errorBound", "()D"⟩ : MethodName) (head1 (Jvm.Cond.code (⟨"com/example/hedgeway/hedgeway/routing/Lambdas", "errorBound", "()D"⟩ : MethodName) prog_29_method_4_code 1 (some .double) :: ws) ({ frames := 0, cells := 0, slots := 0, locals := 0 } : Room)) (fun a U => a = #[(.ref o0)] ∧ Z.Warmed39 U.vm ∧ U.heap = h0) (fun _ _ _ _ _ => True) (fun _ U o U' => ∃ v L, o = .returned v ∧ Q_erb Z o0 s0 kA eb x0 x1 x2 h0 n0 v U'.heap L ∧ FrameEnd U o U' L ({ frames := 0, cells := 0, slots := 0, locals := 0 } : Room).cells ({ frames := 0, cells := 0, slots := 0, locals := 0 } : Room).slots) := by
  refine MetFree.of_bodySF (plainFor_of_name pn_com_example_hedgeway_hedgeway_routing_Lambdas) hisR ?_
  intro p e s m args below meth c s₁ Bd hml0 hP hK
  obtain ⟨rfl, hZ, hh⟩ := hP
  have hx := Bd.exec
  have hby := Bd.bytes
  have hml : c.maxLocals = 1 := hml0
  have hown : s.vm.findClass "com/example/hedgeway/hedgeway/routing/Lambdas" = some m.cls := findClass_of_methodNamed Bd.named
  have hnm := (name_of_methodNamed Bd.named Bd.method).1
  have X0 : Stand p l e ({ frames := 0, cells := 0, slots := 0, locals := 0 } : Room) s m #[(.ref o0)] below meth c s₁ [] 0 0 := Stand.of_body Bd
  have e0 : s₁.heap = h0 := by rw [← hh, Bd.state]; rfl
  have N0 := Fr.nil n0
  have pre0 : ∀ t, Steps p.tables e below (s₁.setTop (mkF m 0 #[.val (.ref o0)] [])) t → Steps p.tables e below (s₁.setTop (entryFrame m #[(.ref o0)] 1)) t := fun t k => castTop (ef_5_R m o0) k
  obtain ⟨T1, X1, e1, st1⟩ := getF X0 hx hZ hown (host := "") (Or.inl (hw _ (List.mem_of_getElem? (i := 24) rfl))) Via.refl e0 F_errorBound_o0 (g := (mkF m 1 #[.val (.ref o0)] [(.ref o0)])) rfl rfl (hb hby d5_1)
  obtain ⟨fs, hr, hrun, hended, hW, hsame⟩ := X1.leave (v := some (.double eb)) (fun h => by rw [Bd.returns] at h; cases h)
  refine ⟨_, _, pre0 _ ?_, hrun, hended, _, _, rfl, ?_, ⟨_, rfl⟩, hW, hsame.mono (by decide) (by decide)⟩
  · show Steps p.tables e below (s₁.setTop (mkF m 0 #[.val (.ref o0)] [])) _
    refine XS.aloadN X0.here hx rfl (hb hby d5_0) rfl rfl ?_
    show Steps p.tables e below (s₁.setTop (mkF m 1 #[.val (.ref o0)] [(.ref o0)])) _
    refine st1 _ ?_
    show Steps p.tables e below (T1.setTop (mkF m 4 #[.val (.ref o0)] [(.double eb)])) _
    exact retOut X1 hx Bd.returns rfl (Or.inr (Or.inr (Or.inl ⟨rfl, rfl, _, rfl⟩))) (hb hby d5_4) hr
  · show Q_erb Z o0 s0 kA eb x0 x1 x2 h0 n0 _ T1.heap _
    rw [e1]
    exact ⟨rfl, N0, rfl⟩
theorem d2_0 : decode prog_29_method_1_code 0 = .ok (.aload_n 0, 1) := by decide +kernel
theorem d2_1 : decode prog_29_method_1_code 1 = .ok (.invokespecial 1, 3) := by decide +kernel
theorem d2_4 : decode prog_29_method_1_code 4 = .ok (.aload_n 0, 1) := by decide +kernel
theorem d2_5 : decode prog_29_method_1_code 5 = .ok (.aload_n 1, 1) := by decide +kernel
theorem d2_6 : decode prog_29_method_1_code 6 = .ok (.putfield 7, 3) := by decide +kernel
theorem so_Lambdas_errorBound_grid {Z : State} {a0 : Array Value} (hw : ∀ d ∈ tables_1, d.before a0 Z = true) : Jvm.RoadKit.slotOf Z "com/example/hedgeway/hedgeway/routing/Lambdas" "errorBound" "D" ≠ Jvm.RoadKit.slotOf Z "com/example/hedgeway/hedgeway/routing/Lambdas" "grid" "[D" := slot_ne (Or.inr (hw _ (List.mem_of_getElem? (i := 25) rfl))) (Or.inr (hw _ (List.mem_of_getElem? (i := 23) rfl))) (by decide) (t := .double) (t' := (.array .double)) (by decide) (by decide)
theorem d2_9 : decode prog_29_method_1_code 9 = .ok (.aload_n 0, 1) := by decide +kernel
theorem d2_10 : decode prog_29_method_1_code 10 = .ok (.dload_n 2, 1) := by decide +kernel
theorem d2_11 : decode prog_29_method_1_code 11 = .ok (.putfield 13, 3) := by decide +kernel
theorem so_Lambdas_grid_errorBound {Z : State} {a0 : Array Value} (hw : ∀ d ∈ tables_1, d.before a0 Z = true) : Jvm.RoadKit.slotOf Z "com/example/hedgeway/hedgeway/routing/Lambdas" "grid" "[D" ≠ Jvm.RoadKit.slotOf Z "com/example/hedgeway/hedgeway/routing/Lambdas" "errorBound" "D" := slot_ne (Or.inr (hw _ (List.mem_of_getElem? (i := 23) rfl))) (Or.inr (hw _ (List.mem_of_getElem? (i := 25) rfl))) (by decide) (t := (.array .double)) (t' := .double) (by decide) (by decide)
theorem d2_14 : decode prog_29_method_1_code 14 = .ok (.return_, 1) := by decide +kernel
theorem ef_2_RRD (m : MethodId) (x0 : Addr) (x1 : Addr) (x2 : UInt64) : entryFrame m #[(.ref x0), (.ref x1), (.double x2)] 4 = mkF m 0 #[.val (.ref x0), .val (.ref x1), .val (.double x2), .second] [] := by first | (simp [entryFrame, mkF, argsToLocals, Value.category]; done) | rfl
def Q_ini (Z : State) (o0 : Addr) (s0 : Addr) (eb : UInt64) (h0 : Heap) (n0 : Nat) (v : Option Value) (h : Heap) (L : List Loc) : Prop := v = none ∧ Fr n0 L ∧ Keep h0 h [o0] ∧ Exa Z h o0 "com/example/hedgeway/hedgeway/routing/Lambdas" ∧ Fld Z h o0 "com/example/hedgeway/hedgeway/routing/Lambdas" "grid" "[D" (.ref s0) ∧ Fld Z h o0 "com/example/hedgeway/hedgeway/routing/Lambdas" "errorBound" "D" (.double eb)
set_option maxRecDepth 65536 in
set_option maxHeartbeats 40000000 in
theorem ini (l : Launch) (Z : State) (a0 : Array Value) (hw : ∀ d ∈ tables_1, d.before a0 Z = true) (ws : List Jvm.Cond) (o0 : Addr) (s0 : Addr) (eb : UInt64) (h0 : Heap) (n0 : Nat) (Z0 : n0 ≤ h0.size) (g_o0 : n0 ≤ o0) (E_o0 : Exa Z h0 o0 "com/example/hedgeway/hedgeway/routing/Lambdas") (F_grid_o0 : Fld Z h0 o0 "com/example/hedgeway/hedgeway/routing/Lambdas" "grid" "[D" .null) (F_errorBound_o0 : Fld Z h0 o0 "com/example/hedgeway/hedgeway/routing/Lambdas" "errorBound" "D" (.double (0 : UInt64))) :
    MetFree l (⟨"com/example/hedgeway/hedgeway/routing/Lambdas", "<init>", "([DD)V"⟩ : MethodName) (head1 (Jvm.Cond.code (⟨"com/example/hedgeway/hedgeway/routing/Lambdas", "<init>", "([DD)V"⟩ : MethodName) prog_29_method_1_code 4 none :: ws) ({ frames := 1, cells := 0, slots := 0, locals := 12 } : Room)) (fun a U => a = #[(.ref o0), (.ref s0), (.double eb)] ∧ Z.Warmed39 U.vm ∧ U.heap = h0) (fun _ _ _ _ _ => True) (fun _ U o U' => ∃ v L, o = .returned v ∧ Q_ini Z o0 s0 eb h0 n0 v U'.heap L ∧ FrameEnd U o U' L ({ frames := 1, cells := 0, slots := 0, locals := 12 } : Room).cells ({ frames := 1, cells := 0, slots := 0, locals := 12 } : Room).slots) := by
  refine MetFree.of_bodySF (plainFor_of_name pn_com_example_hedgeway_hedgeway_routing_Lambdas) hisR ?_
  intro p e s m args below meth c s₁ Bd hml0 hP hK
  obtain ⟨rfl, hZ, hh⟩ := hP
  have hx := Bd.exec
  have hby := Bd.bytes
  have hml : c.maxLocals = 4 := hml0
  have hown : s.vm.findClass "com/example/hedgeway/hedgeway/routing/Lambdas" = some m.cls := findClass_of_methodNamed Bd.named
  have hnm := (name_of_methodNamed Bd.named Bd.method).1
  have X0 : Stand p l e ({ frames := 1, cells := 0, slots := 0, locals := 12 } : Room) s m #[(.ref o0), (.ref s0), (.double eb)] below meth c s₁ [] 0 0 := Stand.of_body Bd
  have e0 : s₁.heap = h0 := by rw [← hh, Bd.state]; rfl
  have N0 := Fr.nil n0
  have pre0 : ∀ t, Steps p.tables e below (s₁.setTop (mkF m 0 #[.val (.ref o0), .val (.ref s0), .val (.double eb), .second] [])) t → Steps p.tables e below (s₁.setTop (entryFrame m #[(.ref o0), (.ref s0), (.double eb)] 4)) t := fun t k => castTop (ef_2_RRD m o0 s0 eb) k
  obtain ⟨T1, X1, e1, st1⟩ := initO X0 hx hZ hown (hw _ (List.mem_of_getElem? (i := 19) rfl)) (hw _ (List.mem_of_getElem? (i := 20) rfl)) (hw _ (List.mem_of_getElem? (i := 21) rfl)) e0 (g := (mkF m 1 #[.val (.ref o0), .val (.ref s0), .val (.double eb), .second] [(.ref o0)])) rfl (by rw [hml]; rfl) rfl (hb hby d2_1) (by decide) (W := 0) (by show 2 * 0 + _ ≤ _; exact Nat.le_of_eq rfl) (by decide)
  obtain ⟨T2, h2, X2, e2, W2, st2⟩ := putF X1 hx hZ hown (host := "") (Or.inl (hw _ (List.mem_of_getElem? (i := 22) rfl))) Via.refl e1 F_grid_o0 E_o0 (Or.inr ⟨(hw _ (List.mem_of_getElem? (i := 23) rfl)), rfl, hnm⟩) (hw _ (List.mem_of_getElem? (i := 6) rfl)) (ty := (.array .double)) (by decide) rfl rfl (g := (mkF m 6 #[.val (.ref o0), .val (.ref s0), .val (.double eb), .second] [(.ref s0), (.ref o0)])) rfl rfl (hb hby d2_6)
  have f3 := E_o0.wr W2
  have f4 := F_errorBound_o0.other W2 (Or.inr (so_Lambdas_errorBound_grid hw))
  have K2 : Keep h0 h2 [o0] := (Keep.refl h0 [o0]).wr W2 (Or.inl (List.mem_of_getElem? (i := 0) rfl))
  have Zs2 := Nat.le_trans Z0 (Keep.of_wr W2).1
  have N2 := Fr.snoc X2 N0 g_o0
  have f5 : Fld Z h2 o0 "com/example/hedgeway/hedgeway/routing/Lambdas" "grid" "[D" (.ref s0) := F_grid_o0.same W2
  obtain ⟨T6, h6, X6, e6, W6, st6⟩ := putF X2 hx hZ hown (host := "") (Or.inl (hw _ (List.mem_of_getElem? (i := 24) rfl))) Via.refl e2 f4 f3 (Or.inr ⟨(hw _ (List.mem_of_getElem? (i := 25) rfl)), rfl, hnm⟩) (hw _ (List.mem_of_getElem? (i := 6) rfl)) (ty := .double) (by decide) rfl rfl (g := (mkF m 11 #[.val (.ref o0), .val (.ref s0), .val (.double eb), .second] [(.double eb), (.ref o0)])) rfl rfl (hb hby d2_11)
  have f7 := f3.wr W6
  have f8 := f5.other W6 (Or.inr (so_Lambdas_grid_errorBound hw))
  have K6 : Keep h0 h6 [o0] := K2.wr W6 (Or.inl (List.mem_of_getElem? (i := 0) rfl))
  have Zs6 := Nat.le_trans Zs2 (Keep.of_wr W6).1
  have N6 := Fr.snoc X6 N2 g_o0
  have f9 : Fld Z h6 o0 "com/example/hedgeway/hedgeway/routing/Lambdas" "errorBound" "D" (.double eb) := f4.same W6
  obtain ⟨fs, hr, hrun, hended, hW, hsame⟩ := X6.leave (v := none) (fun _ => rfl)
  refine ⟨_, _, pre0 _ ?_, hrun, hended, _, _, rfl, ?_, ⟨_, rfl⟩, hW, hsame.mono (by decide) (by decide)⟩
  · show Steps p.tables e below (s₁.setTop (mkF m 0 #[.val (.ref o0), .val (.ref s0), .val (.double eb), .second] [])) _
    refine XS.aloadN X0.here hx rfl (hb hby d2_0) rfl rfl ?_
    show Steps p.tables e below (s₁.setTop (mkF m 1 #[.val (.ref o0), .val (.ref s0), .val (.double eb), .second] [(.ref o0)])) _
    refine st1 _ ?_
    show Steps p.tables e below (T1.setTop (mkF m 4 #[.val (.ref o0), .val (.ref s0), .val (.double eb), .second] [])) _
    refine XS.aloadN X1.here hx rfl (hb hby d2_4) rfl rfl ?_
    show Steps p.tables e below (T1.setTop (mkF m 5 #[.val (.ref o0), .val (.ref s0), .val (.double eb), .second] [(.ref o0)])) _
    refine XS.aloadN X1.here hx rfl (hb hby d2_5) rfl rfl ?_
    show Steps p.tables e below (T1.setTop (mkF m 6 #[.val (.ref o0), .val (.ref s0), .val (.double eb), .second] [(.ref s0), (.ref o0)])) _
    refine st2 _ ?_
    show Steps p.tables e below (T2.setTop (mkF m 9 #[.val (.ref o0), .val (.ref s0), .val (.double eb), .second] [])) _
    refine XS.aloadN X2.here hx rfl (hb hby d2_9) rfl rfl ?_
    show Steps p.tables e below (T2.setTop (mkF m 10 #[.val (.ref o0), .val (.ref s0), .val (.double eb), .second] [(.ref o0)])) _
    refine XS.dloadN X2.here hx rfl (hb hby d2_10) rfl ?_
    show Steps p.tables e below (T2.setTop (mkF m 11 #[.val (.ref o0), .val (.ref s0), .val (.double eb), .second] [(.double eb), (.ref o0)])) _
    refine st6 _ ?_
    show Steps p.tables e below (T6.setTop (mkF m 14 #[.val (.ref o0), .val (.ref s0), .val (.double eb), .second] [])) _
    exact X6.returnOut hx Bd.returns (hb hby d2_14) hr
  · show Q_ini Z o0 s0 eb h0 n0 _ T6.heap _
    rw [e6]
    exact ⟨rfl, N6, K6, f7, f8, f9⟩
theorem d1_0 : decode prog_29_method_2_code 0 = .ok (.new 8, 3) := by decide +kernel
theorem d1_3 : decode prog_29_method_2_code 3 = .ok (.dup, 1) := by decide +kernel
theorem d1_4 : decode prog_29_method_2_code 4 = .ok (.aload_n 0, 1) := by decide +kernel
theorem d1_5 : decode prog_29_method_2_code 5 = .ok (.invokevirtual 17, 3) := by decide +kernel
theorem d1_8 : decode prog_29_method_2_code 8 = .ok (.checkcast 18, 3) := by decide +kernel
theorem d1_11 : decode prog_29_method_2_code 11 = .ok (.dload_n 1, 1) := by decide +kernel
theorem d1_12 : decode prog_29_method_2_code 12 = .ok (.invokespecial 22, 3) := by decide +kernel
theorem pd_7 : parseMethodDescriptor "([DD)V" = some ⟨[(.array .double), .double], none⟩ := by decide +kernel
theorem d1_15 : decode prog_29_method_2_code 15 = .ok (.areturn, 1) := by decide +kernel
theorem ef_1_RD (m : MethodId) (x0 : Addr) (x1 : UInt64) : entryFrame m #[(.ref x0), (.double x1)] 3 = mkF m 0 #[.val (.ref x0), .val (.double x1), .second] [] := by first | (simp [entryFrame, mkF, argsToLocals, Value.category]; done) | rfl
def Q_mkg (Z : State) (s0 : Addr) (kA : ClassId) (eb : UInt64) (x0 : UInt64) (x1 : UInt64) (x2 : UInt64) (h0 : Heap) (n0 : Nat) (v : Option Value) (h : Heap) (L : List Loc) : Prop := (∃ (b1 : Addr) (b4 : Addr), v = some (.ref b1) ∧ Fr n0 L ∧ Keep h0 h [] ∧ h0.size ≤ b1 ∧ h0.size ≤ b4 ∧ Exa Z h b1 "com/example/hedgeway/hedgeway/routing/Lambdas" ∧ Fld Z h b1 "com/example/hedgeway/hedgeway/routing/Lambdas" "grid" "[D" (.ref b4) ∧ Fld Z h b1 "com/example/hedgeway/hedgeway/routing/Lambdas" "errorBound" "D" (.double eb) ∧ Arv Z h b4 kA .double (3 : Int32) [(.double x0), (.double x1), (.double x2)] (.double (0 : UInt64)))
set_option maxRecDepth 65536 in
set_option maxHeartbeats 40000000 in
theorem mkg (l : Launch) (Z : State) (a0 : Array Value) (hw : ∀ d ∈ tables_1, d.before a0 Z = true) (ws : List Jvm.Cond) (s0 : Addr) (kA : ClassId) (eb : UInt64) (x0 : UInt64) (x1 : UInt64) (x2 : UInt64) (h0 : Heap) (n0 : Nat) (Z0 : n0 ≤ h0.size) (V_s0 : Arv Z h0 s0 kA .double (3 : Int32) [(.double x0), (.double x1), (.double x2)] (.double (0 : UInt64))) (E_s0 : Exa Z h0 s0 "[D") :
    MetFree l (⟨"com/example/hedgeway/hedgeway/routing/Lambdas", "grid", "([DD)Lcom/example/hedgeway/hedgeway/routing/Lambdas;"⟩ : MethodName) (head1 (Jvm.Cond.code (⟨"com/example/hedgeway/hedgeway/routing/Lambdas", "grid", "([DD)Lcom/example/hedgeway/hedgeway/routing/Lambdas;"⟩ : MethodName) prog_29_method_2_code 3 (some (.object "com/example/hedgeway/hedgeway/routing/Lambdas")) :: ws) ({ frames := 2, cells := 2, slots := 5, locals := 28 } : Room)) (fun a U => a = #[(.ref s0), (.double eb)] ∧ Z.Warmed39 U.vm ∧ U.heap = h0) (fun _ _ _ _ _ => True) (fun _ U o U' => ∃ v L, o = .returned v ∧ Q_mkg Z s0 kA eb x0 x1 x2 h0 n0 v U'.heap L ∧ FrameEnd U o U' L ({ frames := 2, cells := 2, slots := 5, locals := 28 } : Room).cells ({ frames := 2, cells := 2, slots := 5, locals := 28 } : Room).slots) := by
  refine MetFree.of_bodySF (plainFor_of_name pn_com_example_hedgeway_hedgeway_routing_Lambdas) hisR ?_
  intro p e s m args below meth c s₁ Bd hml0 hP hK
  obtain ⟨rfl, hZ, hh⟩ := hP
  have hx := Bd.exec
  have hby := Bd.bytes
  have hml : c.maxLocals = 3 := hml0
  have hown : s.vm.findClass "com/example/hedgeway/hedgeway/routing/Lambdas" = some m.cls := findClass_of_methodNamed Bd.named
  have hnm := (name_of_methodNamed Bd.named Bd.method).1
  have X0 : Stand p l e ({ frames := 2, cells := 2, slots := 5, locals := 28 } : Room) s m #[(.ref s0), (.double eb)] below meth c s₁ [] 0 0 := Stand.of_body Bd
  have e0 : s₁.heap = h0 := by rw [← hh, Bd.state]; rfl
  have N0 := Fr.nil n0
  have pre0 : ∀ t, Steps p.tables e below (s₁.setTop (mkF m 0 #[.val (.ref s0), .val (.double eb), .second] [])) t → Steps p.tables e below (s₁.setTop (entryFrame m #[(.ref s0), (.double eb)] 3)) t := fun t k => castTop (ef_1_RD m s0 eb) k
  obtain ⟨T1, h1, X1, e1, E1, A1, D1, -, st1⟩ := newO X0 hx hZ hown (hw _ (List.mem_of_getElem? (i := 5) rfl)) (hw _ (List.mem_of_getElem? (i := 6) rfl)) (hw _ (List.mem_of_getElem? (i := 3) rfl)) e0 (g := (mkF m 0 #[.val (.ref s0), .val (.double eb), .second] [])) rfl (hb hby d1_0) (by decide) (by decide)
  obtain ⟨b1, g1⟩ : ∃ z, z = h0.size := ⟨_, rfl⟩
  rw [← g1] at A1 D1 st1
  have ne_s0_b1 : s0 ≠ b1 := Nat.ne_of_lt (Nat.lt_of_lt_of_le V_s0.lt (Nat.le_of_eq g1.symm))
  have g_b1 : n0 ≤ b1 := Nat.le_trans Z0 (Nat.le_of_eq g1.symm)
  have sz_b1 : h0.size ≤ b1 := Nat.le_trans (Keep.refl h0 []).1 (Nat.le_of_eq g1.symm)
  have f2 := V_s0.ext E1
  have f3 := E_s0.ext E1
  have K1 : Keep h0 h1 [] := (Keep.refl h0 []).ext E1
  have Zs1 := Nat.le_trans Z0 E1.1
  have F1_grid : Fld Z h1 b1 "com/example/hedgeway/hedgeway/routing/Lambdas" "grid" "[D" .null := D1 (Or.inr (hw _ (List.mem_of_getElem? (i := 23) rfl))) (ty := (.array .double)) (by decide)
  have F1_errorBound : Fld Z h1 b1 "com/example/hedgeway/hedgeway/routing/Lambdas" "errorBound" "D" (.double (0 : UInt64)) := D1 (Or.inr (hw _ (List.mem_of_getElem? (i := 25) rfl))) (ty := .double) (by decide)
  obtain ⟨T4, h4, X4, e4, E4, A4, B4, st4⟩ := cloneH X1 hx hZ hown (hw _ (List.mem_of_getElem? (i := 7) rfl)) (hw _ (List.mem_of_getElem? (i := 8) rfl)) (hw _ (List.mem_of_getElem? (i := 12) rfl)) (hw _ (List.mem_of_getElem? (i := 10) rfl)) (hw _ (List.mem_of_getElem? (i := 11) rfl)) (hw _ (List.mem_of_getElem? (i := 13) rfl)) e1 (Arv.arh f2) f3 (g := (mkF m 5 #[.val (.ref s0), .val (.double eb), .second] [(.ref s0), (.ref b1), (.ref b1)])) rfl (by rw [hml]; rfl) rfl (hb hby d1_5) (by decide) (W := 2) (cap := 3) (by show 2 * 0 + _ ≤ _; exact Nat.le_of_eq rfl) (by decide) (by decide) (by decide) (by decide)
  obtain ⟨b4, g4⟩ : ∃ z, z = h1.size := ⟨_, rfl⟩
  rw [← g4] at A4 B4 st4
  have ne_s0_b4 : s0 ≠ b4 := Nat.ne_of_lt (Nat.lt_of_lt_of_le f2.lt (Nat.le_of_eq g4.symm))
  have ne_b1_b4 : b1 ≠ b4 := Nat.ne_of_lt (Nat.lt_of_lt_of_le A1.lt (Nat.le_of_eq g4.symm))
  have g_b4 : n0 ≤ b4 := Nat.le_trans Zs1 (Nat.le_of_eq g4.symm)
  have sz_b4 : h0.size ≤ b4 := Nat.le_trans K1.1 (Nat.le_of_eq g4.symm)
  have f5 := f2.ext E4
  have f6 := f3.ext E4
  have f7 := A1.ext E4
  have f8 := F1_grid.ext E4
  have f9 := F1_errorBound.ext E4
  have K4 : Keep h0 h4 [] := K1.ext E4
  have Zs4 := Nat.le_trans Zs1 E4.1
  have V4 : Arv Z h4 b4 kA .double (3 : Int32) [(.double x0), (.double x1), (.double x2)] (.double (0 : UInt64)) := A4
  obtain ⟨T10, X10, e10, st10⟩ := castY X4 hx hZ hown (hw _ (List.mem_of_getElem? (i := 14) rfl)) e4 (Ins.self B4) (g := (mkF m 8 #[.val (.ref s0), .val (.double eb), .second] [(.ref b4), (.ref b1), (.ref b1)])) rfl rfl (hb hby d1_8)
  obtain ⟨_, _, ⟨T11, L11, k11, n11⟩, -, X11, ⟨Lc11, hQ11, l11, y11, z11⟩, st11⟩ := X10.specialBack hx (y := (⟨"com/example/hedgeway/hedgeway/routing/Lambdas", "<init>", "([DD)V"⟩ : MethodName)) rfl hown (mvT hZ (hw _ (List.mem_of_getElem? (i := 16) rfl))) (mvT hZ (hw _ (List.mem_of_getElem? (i := 17) rfl))) (mvT hZ (hw _ (List.mem_of_getElem? (i := 18) rfl))) (by decide) (backOf (W := 1) (ini l Z a0 hw [] b1 b4 eb h4 n0 Zs4 g_b1 f7 f8 f9) hZ (hw _ (List.mem_of_getElem? (i := 18) rfl)) (hw _ (List.mem_of_getElem? (i := 3) rfl)) (by decide) (by decide)) (g := (mkF m 12 #[.val (.ref s0), .val (.double eb), .second] [(.double eb), (.ref b4), (.ref b1), (.ref b1)])) rfl (by rw [hml]; rfl) (Steps.refl _) (a := b1) (argsL := [(.ref b4), (.double eb)]) (rest := [(.ref b1)]) (lenOf pd_7 rfl) rfl (by show 2 * 0 + _ ≤ _; exact Nat.le_of_eq rfl) (hb hby d1_12) (fun _ _ => ⟨rfl, e10, (by decide : 2 + 0 ≤ _), (by decide : 5 + 0 ≤ _)⟩)
  dsimp only [Pt.U, Pt.locs, Pt.cells, Pt.slots] at X11 l11 y11 z11 st11 hQ11
  subst l11 y11 z11
  obtain ⟨rfl, N11q, K11q, f12, f13, f14⟩ := hQ11
  have N11 := Fr.app N0 N11q
  have f15 := f5.keep K11q (own_niS ne_s0_b1 own_ni0)
  have f16 := f6.keep K11q
  have f17 := f7.keep K11q
  have f18 := V4.keep K11q (own_niS (Ne.symm ne_b1_b4) own_ni0)
  have f19 := B4.keep K11q
  have K11 : Keep h0 T11.heap [] := K4.trans K11q (own_allS (Or.inr sz_b1) own_all0)
  have Zs11 := Nat.le_trans Zs4 K11q.1
  obtain ⟨fs, hr, hrun, hended, hW, hsame⟩ := X11.leave (v := some (.ref b1)) (fun h => by rw [Bd.returns] at h; cases h)
  refine ⟨_, _, pre0 _ ?_, hrun, hended, _, _, rfl, ?_, ⟨_, rfl⟩, hW, hsame.mono (by decide) (by decide)⟩
  · show Steps p.tables e below (s₁.setTop (mkF m 0 #[.val (.ref s0), .val (.double eb), .second] [])) _
    refine st1 _ ?_
    show Steps p.tables e below (T1.setTop (mkF m 3 #[.val (.ref s0), .val (.double eb), .second] [(.ref b1)])) _
    refine XS.dup X1.here hx rfl (hb hby d1_3) rfl rfl ?_
    show Steps p.tables e below (T1.setTop (mkF m 4 #[.val (.ref s0), .val (.double eb), .second] [(.ref b1), (.ref b1)])) _
    refine XS.aloadN X1.here hx rfl (hb hby d1_4) rfl rfl ?_
    show Steps p.tables e below (T1.setTop (mkF m 5 #[.val (.ref s0), .val (.double eb), .second] [(.ref s0), (.ref b1), (.ref b1)])) _
    refine st4 _ ?_
    show Steps p.tables e below (T4.setTop (mkF m 8 #[.val (.ref s0), .val (.double eb), .second] [(.ref b4), (.ref b1), (.ref b1)])) _
    refine st10 _ ?_
    show Steps p.tables e below (T10.setTop (mkF m 11 #[.val (.ref s0), .val (.double eb), .second] [(.ref b4), (.ref b1), (.ref b1)])) _
    refine XS.dloadN X10.here hx rfl (hb hby d1_11) rfl ?_
    show Steps p.tables e below (T10.setTop (mkF m 12 #[.val (.ref s0), .val (.double eb), .second] [(.double eb), (.ref b4), (.ref b1), (.ref b1)])) _
    refine st11.trans ?_
    show Steps p.tables e below (T11.setTop (mkF m 15 #[.val (.ref s0), .val (.double eb), .second] [(.ref b1)])) _
    exact retOut X11 hx Bd.returns rfl (Or.inr (Or.inr (Or.inr (Or.inr ⟨rfl, rfl, rfl⟩)))) (hb hby d1_15) hr
  · show Q_mkg Z s0 kA eb x0 x1 x2 h0 n0 _ T11.heap _
    exact ⟨b1, b4, rfl, N11, K11, sz_b1, sz_b4, f12, f13, f14, f18⟩
theorem pd_8 : parseMethodDescriptor "([DD)Lcom/example/hedgeway/hedgeway/routing/Lambdas;" = some ⟨[(.array .double), .double], some (.object "com/example/hedgeway/hedgeway/routing/Lambdas")⟩ := by decide +kernel
theorem pd_9 : parseMethodDescriptor "()Z" = some ⟨[], some .boolean⟩ := by decide +kernel
theorem pd_10 : parseMethodDescriptor "()D" = some ⟨[], some .double⟩ := by decide +kernel
theorem pn_com_example_hedgeway_hedgeway_routing_LambdasGridPinLaw : plainName "com/example/hedgeway/hedgeway/routing/LambdasGridPinLaw" = true := by first | (simp [plainName, overriddenIn]; done) | decide +kernel
theorem ef_0_IIII (m : MethodId) (x0 : Int32) (x1 : Int32) (x2 : Int32) (x3 : Int32) : entryFrame m #[(.int x0), (.int x1), (.int x2), (.int x3)] maxLocals = mkF m 0 #[.val (.int x0), .val (.int x1), .val (.int x2), .val (.int x3), .unset, .unset, .unset, .unset, .unset, .unset, .unset, .unset, .unset, .unset, .unset, .unset, .unset, .unset, .unset, .unset, .unset, .unset, .unset, .unset] [] := by first | (simp [entryFrame, mkF, argsToLocals, Value.category, maxLocals]; done) | rfl
def Q0 (n0 : Nat) (v : Option Value) (h : Heap) (L : List Loc) : Prop := v = some (.int (1 : Int32)) ∧ Fr n0 L
set_option maxRecDepth 65536 in
set_option maxHeartbeats 40000000 in
theorem rm0 (l : Launch) (Z : State) (a0 : Array Value) (hw : ∀ d ∈ tables_1, d.before a0 Z = true) (ws : List Jvm.Cond) (p0 : Int32) (p1 : Int32) (p2 : Int32) (p3 : Int32) (u0 : UInt64) (u1 : UInt64) (u2 : UInt64) (u3 : UInt64) (u4 : UInt64) (ia : Int32) (ib : Int32) (ic : Int32) (h0 : Heap) (n0 : Nat) (Z0 : n0 ≤ h0.size) (hv6 : ((1 : Int32) + (p0 &&& (255 : Int32))) = ia) (hv18 : ((ia + (1 : Int32)) + (p1 &&& (255 : Int32))) = ib) (hv30 : ((ib + (1 : Int32)) + (p2 &&& (255 : Int32))) = ic) (hd133 : (cmpValue (FP.dcmp (FP.i2d p3) (FP.i2d p3)) .l) = (0 : Int32)) (hmin_19_157 : (Native.java_lang_Math.nans.pick64 false u0 (FP.i2d ic)) = (FP.i2d ia)) (hd33_5_5_2_19_157 : (cmpValue (FP.dcmp (FP.i2d ib) (0 : UInt64)) .g) = (1 : Int32)) (hd49_5_5_2_19_157 : (cmpValue (FP.dcmp (FP.i2d ib) (0 : UInt64)) .l) = (1 : Int32)) (hd33_1_5_5_2_19_157 : (cmpValue (FP.dcmp (FP.i2d ia) (0 : UInt64)) .g) = (1 : Int32)) (hd49_1_5_5_2_19_157 : (cmpValue (FP.dcmp (FP.i2d ia) (0 : UInt64)) .l) = (1 : Int32)) (hd33_5_5_9_19_157 : (cmpValue (FP.dcmp (FP.i2d ib) (4652007308841189376 : UInt64)) .g) = (-1 : Int32)) (hd33_1_5_5_9_19_157 : (cmpValue (FP.dcmp (FP.i2d ic) (4652007308841189376 : UInt64)) .g) = (-1 : Int32)) (nna36_19_157 : Jvm.Free.Fl.NoNaN64 (FP.i2d ia)) (nnb36_19_157 : Jvm.Free.Fl.NoNaN64 (FP.i2d ia)) (hq36_19_157 : (Native.java_lang_Math.nans.pick64 true (FP.i2d ia) (FP.i2d ia)) = u0) (nna46_19_157 : Jvm.Free.Fl.NoNaN64 u0) (nnb46_19_157 : Jvm.Free.Fl.NoNaN64 (FP.i2d ic)) (hd33_5_5_54_19_157 : (cmpValue (FP.dcmp (FP.i2d ib) (FP.i2d ia)) .g) = (1 : Int32)) (hd49_5_5_54_19_157 : (cmpValue (FP.dcmp (FP.i2d ib) (FP.i2d ia)) .l) = (1 : Int32)) (hd33_1_5_5_54_19_157 : (cmpValue (FP.dcmp (FP.i2d ia) (FP.i2d ia)) .g) = (0 : Int32)) (hd49_1_5_5_54_19_157 : (cmpValue (FP.dcmp (FP.i2d ia) (FP.i2d ia)) .l) = (0 : Int32)) (hd2_1_64_5_5_54_19_157 : (cmpValue (FP.dcmp (FP.i2d ia) (FP.i2d ia)) .l) = (0 : Int32)) (hd2_1_70_5_5_54_19_157 : (cmpValue (FP.dcmp (FP.i2d ia) (FP.i2d ia)) .l) = (0 : Int32)) (hd162 : (cmpValue (FP.dcmp (FP.i2d ia) (FP.i2d ia)) .l) = (0 : Int32)) (hmin_19_186 : (Native.java_lang_Math.nans.pick64 false u1 (FP.i2d ic)) = (FP.i2d ib)) (hd33_5_5_2_19_186 : (cmpValue (FP.dcmp (FP.i2d ib) (0 : UInt64)) .g) = (1 : Int32)) (hd49_5_5_2_19_186 : (cmpValue (FP.dcmp (FP.i2d ib) (0 : UInt64)) .l) = (1 : Int32)) (hd33_1_5_5_2_19_186 : (cmpValue (FP.dcmp (FP.i2d ia) (0 : UInt64)) .g) = (1 : Int32)) (hd49_1_5_5_2_19_186 : (cmpValue (FP.dcmp (FP.i2d ia) (0 : UInt64)) .l) = (1 : Int32)) (hd33_5_5_9_19_186 : (cmpValue (FP.dcmp (FP.i2d ib) (4652007308841189376 : UInt64)) .g) = (-1 : Int32)) (hd33_1_5_5_9_19_186 : (cmpValue (FP.dcmp (FP.i2d ic) (4652007308841189376 : UInt64)) .g) = (-1 : Int32)) (nna36_19_186 : Jvm.Free.Fl.NoNaN64 (FP.i2d ib)) (nnb36_19_186 : Jvm.Free.Fl.NoNaN64 (FP.i2d ia)) (hq36_19_186 : (Native.java_lang_Math.nans.pick64 true (FP.i2d ib) (FP.i2d ia)) = u1) (nna46_19_186 : Jvm.Free.Fl.NoNaN64 u1) (nnb46_19_186 : Jvm.Free.Fl.NoNaN64 (FP.i2d ic)) (hd33_5_5_54_19_186 : (cmpValue (FP.dcmp (FP.i2d ib) (FP.i2d ib)) .g) = (0 : Int32)) (hd49_5_5_54_19_186 : (cmpValue (FP.dcmp (FP.i2d ib) (FP.i2d ib)) .l) = (0 : Int32)) (hd2_1_64_5_5_54_19_186 : (cmpValue (FP.dcmp (FP.i2d ib) (FP.i2d ib)) .l) = (0 : Int32)) (hd2_1_70_5_5_54_19_186 : (cmpValue (FP.dcmp (FP.i2d ib) (FP.i2d ib)) .l) = (0 : Int32)) (nn75_19_186 : Jvm.Free.Fl.NoNaN64 (FP.ddiv (FP.i2d ib) (FP.i2d ib))) (nn87_19_186 : Jvm.Free.Fl.NoNaN64 (FP.ddiv (FP.i2d ib) (FP.i2d ia))) (hc89_19_186 : ¬ ((0 : Int32) < (cmpValue (FP.dcmp (FP.ddiv (FP.i2d ib) (FP.i2d ib)) (FP.ddiv (FP.i2d ib) (FP.i2d ia))) .l))) (hd191 : (cmpValue (FP.dcmp (FP.i2d ib) (FP.i2d ib)) .l) = (0 : Int32)) (hmin_19_215 : (Native.java_lang_Math.nans.pick64 false u2 (FP.i2d ic)) = (FP.i2d ic)) (hd33_5_5_2_19_215 : (cmpValue (FP.dcmp (FP.i2d ib) (0 : UInt64)) .g) = (1 : Int32)) (hd49_5_5_2_19_215 : (cmpValue (FP.dcmp (FP.i2d ib) (0 : UInt64)) .l) = (1 : Int32)) (hd33_1_5_5_2_19_215 : (cmpValue (FP.dcmp (FP.i2d ia) (0 : UInt64)) .g) = (1 : Int32)) (hd49_1_5_5_2_19_215 : (cmpValue (FP.dcmp (FP.i2d ia) (0 : UInt64)) .l) = (1 : Int32)) (hd33_5_5_9_19_215 : (cmpValue (FP.dcmp (FP.i2d ib) (4652007308841189376 : UInt64)) .g) = (-1 : Int32)) (hd33_1_5_5_9_19_215 : (cmpValue (FP.dcmp (FP.i2d ic) (4652007308841189376 : UInt64)) .g) = (-1 : Int32)) (nna36_19_215 : Jvm.Free.Fl.NoNaN64 (FP.i2d ic)) (nnb36_19_215 : Jvm.Free.Fl.NoNaN64 (FP.i2d ia)) (hq36_19_215 : (Native.java_lang_Math.nans.pick64 true (FP.i2d ic) (FP.i2d ia)) = u2) (nna46_19_215 : Jvm.Free.Fl.NoNaN64 u2) (nnb46_19_215 : Jvm.Free.Fl.NoNaN64 (FP.i2d ic)) (hd33_5_5_54_19_215 : (cmpValue (FP.dcmp (FP.i2d ib) (FP.i2d ic)) .g) = (-1 : Int32)) (hd33_1_5_5_54_19_215 : (cmpValue (FP.dcmp (FP.i2d ic) (FP.i2d ic)) .g) = (0 : Int32)) (hd49_5_5_54_19_215 : (cmpValue (FP.dcmp (FP.i2d ic) (FP.i2d ic)) .l) = (0 : Int32)) (hd2_1_64_5_5_54_19_215 : (cmpValue (FP.dcmp (FP.i2d ic) (FP.i2d ic)) .l) = (0 : Int32)) (hd2_1_70_5_5_54_19_215 : (cmpValue (FP.dcmp (FP.i2d ic) (FP.i2d ic)) .l) = (0 : Int32)) (nn75_19_215 : Jvm.Free.Fl.NoNaN64 (FP.ddiv (FP.i2d ic) (FP.i2d ic))) (nn87_19_215 : Jvm.Free.Fl.NoNaN64 (FP.ddiv (FP.i2d ic) (FP.i2d ib))) (hc89_19_215 : ¬ ((0 : Int32) < (cmpValue (FP.dcmp (FP.ddiv (FP.i2d ic) (FP.i2d ic)) (FP.ddiv (FP.i2d ic) (FP.i2d ib))) .l))) (hd220 : (cmpValue (FP.dcmp (FP.i2d ic) (FP.i2d ic)) .l) = (0 : Int32)) (hmin_19_243 : (Native.java_lang_Math.nans.pick64 false u3 (FP.i2d ic)) = (FP.i2d ia)) (hd33_5_5_2_19_243 : (cmpValue (FP.dcmp (FP.i2d ib) (0 : UInt64)) .g) = (1 : Int32)) (hd49_5_5_2_19_243 : (cmpValue (FP.dcmp (FP.i2d ib) (0 : UInt64)) .l) = (1 : Int32)) (hd33_1_5_5_2_19_243 : (cmpValue (FP.dcmp (FP.i2d ia) (0 : UInt64)) .g) = (1 : Int32)) (hd49_1_5_5_2_19_243 : (cmpValue (FP.dcmp (FP.i2d ia) (0 : UInt64)) .l) = (1 : Int32)) (hd33_5_5_9_19_243 : (cmpValue (FP.dcmp (FP.i2d ib) (4652007308841189376 : UInt64)) .g) = (-1 : Int32)) (hd33_1_5_5_9_19_243 : (cmpValue (FP.dcmp (FP.i2d ic) (4652007308841189376 : UInt64)) .g) = (-1 : Int32)) (nna36_19_243 : Jvm.Free.Fl.NoNaN64 (0 : UInt64)) (nnb36_19_243 : Jvm.Free.Fl.NoNaN64 (FP.i2d ia)) (hq36_19_243 : (Native.java_lang_Math.nans.pick64 true (0 : UInt64) (FP.i2d ia)) = u3) (nna46_19_243 : Jvm.Free.Fl.NoNaN64 u3) (nnb46_19_243 : Jvm.Free.Fl.NoNaN64 (FP.i2d ic)) (hd33_5_5_54_19_243 : (cmpValue (FP.dcmp (FP.i2d ib) (FP.i2d ia)) .g) = (1 : Int32)) (hd49_5_5_54_19_243 : (cmpValue (FP.dcmp (FP.i2d ib) (FP.i2d ia)) .l) = (1 : Int32)) (hd33_1_5_5_54_19_243 : (cmpValue (FP.dcmp (FP.i2d ia) (FP.i2d ia)) .g) = (0 : Int32)) (hd49_1_5_5_54_19_243 : (cmpValue (FP.dcmp (FP.i2d ia) (FP.i2d ia)) .l) = (0 : Int32)) (hd2_1_64_5_5_54_19_243 : (cmpValue (FP.dcmp (FP.i2d ia) (FP.i2d ia)) .l) = (0 : Int32)) (hd2_1_70_5_5_54_19_243 : (cmpValue (FP.dcmp (FP.i2d ia) (FP.i2d ia)) .l) = (0 : Int32)) (hd248 : (cmpValue (FP.dcmp (FP.i2d ia) (FP.i2d ia)) .l) = (0 : Int32)) (hmin_19_273 : (Native.java_lang_Math.nans.pick64 false u4 (FP.i2d ic)) = (FP.i2d ic)) (hd33_5_5_2_19_273 : (cmpValue (FP.dcmp (FP.i2d ib) (0 : UInt64)) .g) = (1 : Int32)) (hd49_5_5_2_19_273 : (cmpValue (FP.dcmp (FP.i2d ib) (0 : UInt64)) .l) = (1 : Int32)) (hd33_1_5_5_2_19_273 : (cmpValue (FP.dcmp (FP.i2d ia) (0 : UInt64)) .g) = (1 : Int32)) (hd49_1_5_5_2_19_273 : (cmpValue (FP.dcmp (FP.i2d ia) (0 : UInt64)) .l) = (1 : Int32)) (hd33_5_5_9_19_273 : (cmpValue (FP.dcmp (FP.i2d ib) (4652007308841189376 : UInt64)) .g) = (-1 : Int32)) (hd33_1_5_5_9_19_273 : (cmpValue (FP.dcmp (FP.i2d ic) (4652007308841189376 : UInt64)) .g) = (-1 : Int32)) (nna36_19_273 : Jvm.Free.Fl.NoNaN64 (4656510908468559872 : UInt64)) (nnb36_19_273 : Jvm.Free.Fl.NoNaN64 (FP.i2d ia)) (hq36_19_273 : (Native.java_lang_Math.nans.pick64 true (4656510908468559872 : UInt64) (FP.i2d ia)) = u4) (nna46_19_273 : Jvm.Free.Fl.NoNaN64 u4) (nnb46_19_273 : Jvm.Free.Fl.NoNaN64 (FP.i2d ic)) (hd33_5_5_54_19_273 : (cmpValue (FP.dcmp (FP.i2d ib) (FP.i2d ic)) .g) = (-1 : Int32)) (hd33_1_5_5_54_19_273 : (cmpValue (FP.dcmp (FP.i2d ic) (FP.i2d ic)) .g) = (0 : Int32)) (hd49_5_5_54_19_273 : (cmpValue (FP.dcmp (FP.i2d ic) (FP.i2d ic)) .l) = (0 : Int32)) (hd2_1_64_5_5_54_19_273 : (cmpValue (FP.dcmp (FP.i2d ic) (FP.i2d ic)) .l) = (0 : Int32)) (hd2_1_70_5_5_54_19_273 : (cmpValue (FP.dcmp (FP.i2d ic) (FP.i2d ic)) .l) = (0 : Int32)) (nn75_19_273 : Jvm.Free.Fl.NoNaN64 (FP.ddiv (FP.i2d ic) (FP.i2d ic))) (nn87_19_273 : Jvm.Free.Fl.NoNaN64 (FP.ddiv (FP.i2d ic) (FP.i2d ib))) (hc89_19_273 : ¬ ((0 : Int32) < (cmpValue (FP.dcmp (FP.ddiv (FP.i2d ic) (FP.i2d ic)) (FP.ddiv (FP.i2d ic) (FP.i2d ib))) .l))) (hd278 : (cmpValue (FP.dcmp (FP.i2d ic) (FP.i2d ic)) .l) = (0 : Int32)) :
    MetFree l x (head1 (Jvm.Cond.code x code maxLocals ret :: ws) room_1) (fun a U => a = #[(.int p0), (.int p1), (.int p2), (.int p3)] ∧ Z.Warmed39 U.vm ∧ U.heap = h0) (fun _ _ _ _ _ => True) (fun _ U o U' => ∃ v L, o = .returned v ∧ Q0 n0 v U'.heap L ∧ FrameEnd U o U' L room_1.cells room_1.slots) := by
  refine MetFree.of_bodySF (plainFor_of_name pn_com_example_hedgeway_hedgeway_routing_LambdasGridPinLaw) hisR ?_
  intro p e s m args below meth c s₁ Bd hml0 hP hK
  obtain ⟨rfl, hZ, hh⟩ := hP
  have hx := Bd.exec
  have hby := Bd.bytes
  have hml : c.maxLocals = 24 := hml0
  have hown : s.vm.findClass "com/example/hedgeway/hedgeway/routing/LambdasGridPinLaw" = some m.cls := findClass_of_methodNamed Bd.named
  have hnm := (name_of_methodNamed Bd.named Bd.method).1
  have X0 : Stand p l e room_1 s m #[(.int p0), (.int p1), (.int p2), (.int p3)] below meth c s₁ [] 0 0 := Stand.of_body Bd
  have e0 : s₁.heap = h0 := by rw [← hh, Bd.state]; rfl
  have N0 := Fr.nil n0
  have pre0 : ∀ t, Steps p.tables e below (s₁.setTop (mkF m 0 #[.val (.int p0), .val (.int p1), .val (.int p2), .val (.int p3), .unset, .unset, .unset, .unset, .unset, .unset, .unset, .unset, .unset, .unset, .unset, .unset, .unset, .unset, .unset, .unset, .unset, .unset, .unset, .unset] [])) t → Steps p.tables e below (s₁.setTop (entryFrame m #[(.int p0), (.int p1), (.int p2), (.int p3)] maxLocals)) t := fun t k => castTop (ef_0_IIII m p0 p1 p2 p3) k
  obtain ⟨T1, h1, k1, X1, e1, E1, A1, B1, st1⟩ := newPE X0 hx hZ (hw _ (List.mem_of_getElem? (i := 0) rfl)) e0 (g := (mkF m 53 #[.val (.int p0), .val (.int p1), .val (.int p2), .val (.int p3), .val (.int ia), .val (.int ib), .val (.int ic), .val (.double (FP.i2d ia)), .second, .val (.double (FP.i2d ib)), .second, .val (.double (FP.i2d ic)), .second, .val (.double (FP.i2d p3)), .second, .unset, .unset, .unset, .unset, .unset, .unset, .unset, .unset, .unset] [(.int (3 : Int32))])) rfl (hb hby at_53) rfl (by decide) (cap := 3) (by decide) (by decide) (by decide) (by decide) (ad := "[D") rfl
  obtain ⟨b1, g1⟩ : ∃ z, z = h0.size := ⟨_, rfl⟩
  rw [← g1] at A1 st1 B1
  have g_b1 : n0 ≤ b1 := Nat.le_trans Z0 (Nat.le_of_eq g1.symm)
  have sz_b1 : h0.size ≤ b1 := Nat.le_trans (Keep.refl h0 []).1 (Nat.le_of_eq g1.symm)
  have K1 : Keep h0 h1 [] := (Keep.refl h0 []).ext E1
  have Zs1 := Nat.le_trans Z0 E1.1
  have V1 : Arv Z h1 b1 k1 .double (3 : Int32) [(.double (0 : UInt64)), (.double (0 : UInt64)), (.double (0 : UInt64))] (.double (0 : UInt64)) := (Arv.new A1 (by decide)).pad (pad_rep [] (.double (0 : UInt64)) 3)
  obtain ⟨cq2, Arq2, qq2, Sq2, Nq2, Hq2, Gq2⟩ := id V1
  obtain ⟨T3, h3, X3, e3, W3, st3⟩ := stD X1 hx hZ e1 Arq2 (j := (0 : Int32)) (inb_of Sq2 ⟨by decide, by decide⟩) (g := (mkF m 59 #[.val (.int p0), .val (.int p1), .val (.int p2), .val (.int p3), .val (.int ia), .val (.int ib), .val (.int ic), .val (.double (FP.i2d ia)), .second, .val (.double (FP.i2d ib)), .second, .val (.double (FP.i2d ic)), .second, .val (.double (FP.i2d p3)), .second, .unset, .unset, .unset, .unset, .unset, .unset, .unset, .unset, .unset] [(.double (FP.i2d ia)), (.int (0 : Int32)), (.ref b1), (.ref b1)])) rfl rfl (hb hby at_59)
  have f4 := B1.wr W3
  have K3 : Keep h0 h3 [] := K1.wr W3 (Or.inr sz_b1)
  have Zs3 := Nat.le_trans Zs1 (Keep.of_wr W3).1
  have N3 := Fr.snoc X3 N0 g_b1
  have f5 : Arv Z h3 b1 k1 .double (3 : Int32) [(.double (FP.i2d ia)), (.double (0 : UInt64)), (.double (0 : UInt64))] (.double (0 : UInt64)) := Arv.set Arq2 qq2 Sq2 Nq2 Hq2 Gq2 rfl W3 0 rfl (Nat.le_of_ble_eq_true rfl)
  obtain ⟨cq6, Arq6, qq6, Sq6, Nq6, Hq6, Gq6⟩ := id f5
  obtain ⟨T7, h7, X7, e7, W7, st7⟩ := stD X3 hx hZ e3 Arq6 (j := (1 : Int32)) (inb_of Sq6 ⟨by decide, by decide⟩) (g := (mkF m 64 #[.val (.int p0), .val (.int p1), .val (.int p2), .val (.int p3), .val (.int ia), .val (.int ib), .val (.int ic), .val (.double (FP.i2d ia)), .second, .val (.double (FP.i2d ib)), .second, .val (.double (FP.i2d ic)), .second, .val (.double (FP.i2d p3)), .second, .unset, .unset, .unset, .unset, .unset, .unset, .unset, .unset, .unset] [(.double (FP.i2d ib)), (.int (1 : Int32)), (.ref b1), (.ref b1)])) rfl rfl (hb hby at_64)
  have f8 := f4.wr W7
  have K7 : Keep h0 h7 [] := K3.wr W7 (Or.inr sz_b1)
  have Zs7 := Nat.le_trans Zs3 (Keep.of_wr W7).1
  have N7 := Fr.snoc X7 N3 g_b1
  have f9 : Arv Z h7 b1 k1 .double (3 : Int32) [(.double (FP.i2d ia)), (.double (FP.i2d ib)), (.double (0 : UInt64))] (.double (0 : UInt64)) := Arv.set Arq6 qq6 Sq6 Nq6 Hq6 Gq6 rfl W7 1 rfl (Nat.le_of_ble_eq_true rfl)
  obtain ⟨cq10, Arq10, qq10, Sq10, Nq10, Hq10, Gq10⟩ := id f9
  obtain ⟨T11, h11, X11, e11, W11, st11⟩ := stD X7 hx hZ e7 Arq10 (j := (2 : Int32)) (inb_of Sq10 ⟨by decide, by decide⟩) (g := (mkF m 69 #[.val (.int p0), .val (.int p1), .val (.int p2), .val (.int p3), .val (.int ia), .val (.int ib), .val (.int ic), .val (.double (FP.i2d ia)), .second, .val (.double (FP.i2d ib)), .second, .val (.double (FP.i2d ic)), .second, .val (.double (FP.i2d p3)), .second, .unset, .unset, .unset, .unset, .unset, .unset, .unset, .unset, .unset] [(.double (FP.i2d ic)), (.int (2 : Int32)), (.ref b1), (.ref b1)])) rfl rfl (hb hby at_69)
  have f12 := f8.wr W11
  have K11 : Keep h0 h11 [] := K7.wr W11 (Or.inr sz_b1)
  have Zs11 := Nat.le_trans Zs7 (Keep.of_wr W11).1
  have N11 := Fr.snoc X11 N7 g_b1
  have f13 : Arv Z h11 b1 k1 .double (3 : Int32) [(.double (FP.i2d ia)), (.double (FP.i2d ib)), (.double (FP.i2d ic))] (.double (0 : UInt64)) := Arv.set Arq10 qq10 Sq10 Nq10 Hq10 Gq10 rfl W11 2 rfl (Nat.le_of_ble_eq_true rfl)
  obtain ⟨_, _, ⟨T14, L14, k14, n14⟩, -, X14, ⟨Lc14, hQ14, l14, y14, z14⟩, st14⟩ := Jvm.LawKit.callS X11 hx (y := (⟨"com/example/hedgeway/hedgeway/routing/Lambdas", "grid", "([DD)Lcom/example/hedgeway/hedgeway/routing/Lambdas;"⟩ : MethodName)) hown (mvT hZ (hw _ (List.mem_of_getElem? (i := 1) rfl))) (mvT hZ (hw _ (List.mem_of_getElem? (i := 2) rfl))) (mvT hZ (hw _ (List.mem_of_getElem? (i := 3) rfl))) (mvT hZ (hw _ (List.mem_of_getElem? (i := 4) rfl))) (by decide) (backOf (W := 0) (mkg l Z a0 hw [] b1 k1 (FP.i2d p3) (FP.i2d ia) (FP.i2d ib) (FP.i2d ic) h11 n0 Zs11 f13 f12) hZ (hw _ (List.mem_of_getElem? (i := 4) rfl)) (hw _ (List.mem_of_getElem? (i := 3) rfl)) (by decide) (by decide)) (g := (mkF m 76 #[.val (.int p0), .val (.int p1), .val (.int p2), .val (.int p3), .val (.int ia), .val (.int ib), .val (.int ic), .val (.double (FP.i2d ia)), .second, .val (.double (FP.i2d ib)), .second, .val (.double (FP.i2d ic)), .second, .val (.double (FP.i2d p3)), .second, .val (.ref b1), .unset, .unset, .unset, .unset, .unset, .unset, .unset, .unset] [(.double (FP.i2d p3)), (.ref b1)])) rfl (by rw [hml]; rfl) (argsL := [(.ref b1), (.double (FP.i2d p3))]) (rest := []) (lenOf pd_8 rfl) rfl (by show 2 * 0 + _ ≤ _; exact Nat.le_of_eq rfl) (hb hby at_76) (fun _ _ => ⟨rfl, e11, (by decide : 1 + 2 ≤ _), (by decide : 3 + 5 ≤ _)⟩)
  dsimp only [Pt.U, Pt.locs, Pt.cells, Pt.slots] at X14 l14 y14 z14 st14 hQ14
  subst l14 y14 z14
  obtain ⟨b1_14, b4_14, rfl, N14q, K14q, r15, r16, f17, f18, f19, f20⟩ := hQ14
  have N14 := Fr.app N11 N14q
  have ne_b1_b1_14 : b1 ≠ b1_14 := Nat.ne_of_lt (Nat.lt_of_lt_of_le f13.lt r15)
  have g_b1_14 : n0 ≤ b1_14 := Nat.le_trans Zs11 r15
  have sz_b1_14 : h0.size ≤ b1_14 := Nat.le_trans K11.1 r15
  have ne_b1_b4_14 : b1 ≠ b4_14 := Nat.ne_of_lt (Nat.lt_of_lt_of_le f13.lt r16)
  have g_b4_14 : n0 ≤ b4_14 := Nat.le_trans Zs11 r16
  have sz_b4_14 : h0.size ≤ b4_14 := Nat.le_trans K11.1 r16
  have f21 := f13.keep K14q own_ni0
  have f22 := f12.keep K14q
  have K14 : Keep h0 T14.heap [] := K11.trans K14q own_all0
  have Zs14 := Nat.le_trans Zs11 K14q.1
  obtain ⟨cq23, Arq23, qq23, Sq23, Nq23, Hq23, Gq23⟩ := id f21
  obtain ⟨T24, h24, X24, e24, W24, st24⟩ := stD X14 hx hZ rfl Arq23 (j := (0 : Int32)) (inb_of Sq23 ⟨by decide, by decide⟩) (g := (mkF m 93 #[.val (.int p0), .val (.int p1), .val (.int p2), .val (.int p3), .val (.int ia), .val (.int ib), .val (.int ic), .val (.double (FP.i2d ia)), .second, .val (.double (FP.i2d ib)), .second, .val (.double (FP.i2d ic)), .second, .val (.double (FP.i2d p3)), .second, .val (.ref b1), .val (.ref b1_14), .val (.double (FP.i2d (ic + (1 : Int32)))), .second, .unset, .unset, .unset, .unset, .unset] [(.double (FP.i2d (ic + (1 : Int32)))), (.int (0 : Int32)), (.ref b1)])) rfl rfl (hb hby at_93)
  have f25 := f22.wr W24
  have f26 := f17.wr W24
  have f27 := f18.other W24 (Or.inl (Ne.symm ne_b1_b1_14))
  have f28 := f19.other W24 (Or.inl (Ne.symm ne_b1_b1_14))
  have f29 := f20.other W24 (Ne.symm ne_b1_b4_14)
  have K24 : Keep h0 h24 [] := K14.wr W24 (Or.inr sz_b1)
  have Zs24 := Nat.le_trans Zs14 (Keep.of_wr W24).1
  have N24 := Fr.snoc X24 N14 g_b1
  have f30 : Arv Z h24 b1 k1 .double (3 : Int32) [(.double (FP.i2d (ic + (1 : Int32)))), (.double (FP.i2d ib)), (.double (FP.i2d ic))] (.double (0 : UInt64)) := Arv.set Arq23 qq23 Sq23 Nq23 Hq23 Gq23 rfl W24 0 rfl (Nat.le_of_ble_eq_true rfl)
  obtain ⟨cq31, Arq31, qq31, Sq31, Nq31, Hq31, Gq31⟩ := id f30
  obtain ⟨T32, h32, X32, e32, W32, st32⟩ := stD X24 hx hZ e24 Arq31 (j := (1 : Int32)) (inb_of Sq31 ⟨by decide, by decide⟩) (g := (mkF m 99 #[.val (.int p0), .val (.int p1), .val (.int p2), .val (.int p3), .val (.int ia), .val (.int ib), .val (.int ic), .val (.double (FP.i2d ia)), .second, .val (.double (FP.i2d ib)), .second, .val (.double (FP.i2d ic)), .second, .val (.double (FP.i2d p3)), .second, .val (.ref b1), .val (.ref b1_14), .val (.double (FP.i2d (ic + (1 : Int32)))), .second, .unset, .unset, .unset, .unset, .unset] [(.double (FP.i2d (ic + (1 : Int32)))), (.int (1 : Int32)), (.ref b1)])) rfl rfl (hb hby at_99)
  have f33 := f25.wr W32
  have f34 := f26.wr W32
  have f35 := f27.other W32 (Or.inl (Ne.symm ne_b1_b1_14))
  have f36 := f28.other W32 (Or.inl (Ne.symm ne_b1_b1_14))
  have f37 := f29.other W32 (Ne.symm ne_b1_b4_14)
  have K32 : Keep h0 h32 [] := K24.wr W32 (Or.inr sz_b1)
  have Zs32 := Nat.le_trans Zs24 (Keep.of_wr W32).1
  have N32 := Fr.snoc X32 N24 g_b1
  have f38 : Arv Z h32 b1 k1 .double (3 : Int32) [(.double (FP.i2d (ic + (1 : Int32)))), (.double (FP.i2d (ic + (1 : Int32)))), (.double (FP.i2d ic))] (.double (0 : UInt64)) := Arv.set Arq31 qq31 Sq31 Nq31 Hq31 Gq31 rfl W32 1 rfl (Nat.le_of_ble_eq_true rfl)
  obtain ⟨cq39, Arq39, qq39, Sq39, Nq39, Hq39, Gq39⟩ := id f38
  obtain ⟨T40, h40, X40, e40, W40, st40⟩ := stD X32 hx hZ e32 Arq39 (j := (2 : Int32)) (inb_of Sq39 ⟨by decide, by decide⟩) (g := (mkF m 105 #[.val (.int p0), .val (.int p1), .val (.int p2), .val (.int p3), .val (.int ia), .val (.int ib), .val (.int ic), .val (.double (FP.i2d ia)), .second, .val (.double (FP.i2d ib)), .second, .val (.double (FP.i2d ic)), .second, .val (.double (FP.i2d p3)), .second, .val (.ref b1), .val (.ref b1_14), .val (.double (FP.i2d (ic + (1 : Int32)))), .second, .unset, .unset, .unset, .unset, .unset] [(.double (FP.i2d (ic + (1 : Int32)))), (.int (2 : Int32)), (.ref b1)])) rfl rfl (hb hby at_105)
  have f41 := f33.wr W40
  have f42 := f34.wr W40
  have f43 := f35.other W40 (Or.inl (Ne.symm ne_b1_b1_14))
  have f44 := f36.other W40 (Or.inl (Ne.symm ne_b1_b1_14))
  have f45 := f37.other W40 (Ne.symm ne_b1_b4_14)
  have K40 : Keep h0 h40 [] := K32.wr W40 (Or.inr sz_b1)
  have Zs40 := Nat.le_trans Zs32 (Keep.of_wr W40).1
  have N40 := Fr.snoc X40 N32 g_b1
  have f46 : Arv Z h40 b1 k1 .double (3 : Int32) [(.double (FP.i2d (ic + (1 : Int32)))), (.double (FP.i2d (ic + (1 : Int32)))), (.double (FP.i2d (ic + (1 : Int32))))] (.double (0 : UInt64)) := Arv.set Arq39 qq39 Sq39 Nq39 Hq39 Gq39 rfl W40 2 rfl (Nat.le_of_ble_eq_true rfl)
  obtain ⟨cq47, kq47, q47a, q47b, q47c⟩ := isOf hZ e40 f42
  obtain ⟨_, _, ⟨T47, L47, k47, n47⟩, -, X47, ⟨Lc47, hQ47, l47, y47, z47⟩, st47⟩ := X40.virtualBack hx (y := (⟨"com/example/hedgeway/hedgeway/routing/Lambdas", "isGrid", "()Z"⟩ : MethodName)) (z := (⟨"com/example/hedgeway/hedgeway/routing/Lambdas", "isGrid", "()Z"⟩ : MethodName)) hown (mvT hZ (hw _ (List.mem_of_getElem? (i := 27) rfl))) (mvT hZ (hw _ (List.mem_of_getElem? (i := 28) rfl))) (notFace_of_selects (args := #[]) (mvT hZ (hw _ (List.mem_of_getElem? (i := 30) rfl)))) (mvT hZ (hw _ (List.mem_of_getElem? (i := 30) rfl))) (mvT hZ (hw _ (List.mem_of_getElem? (i := 29) rfl))) (by decide) (backOf (W := 0) (isg l Z a0 hw [] b1_14 b4_14 k1 (FP.i2d p3) (FP.i2d ia) (FP.i2d ib) (FP.i2d ic) h40 n0 Zs40 f43 f44 f42 f45) hZ (hw _ (List.mem_of_getElem? (i := 31) rfl)) (hw _ (List.mem_of_getElem? (i := 3) rfl)) (by decide) (by decide)) q47a q47c (g := (mkF m 116 #[.val (.int p0), .val (.int p1), .val (.int p2), .val (.int p3), .val (.int ia), .val (.int ib), .val (.int ic), .val (.double (FP.i2d ia)), .second, .val (.double (FP.i2d ib)), .second, .val (.double (FP.i2d ic)), .second, .val (.double (FP.i2d p3)), .second, .val (.ref b1), .val (.ref b1_14), .val (.double (FP.i2d (ic + (1 : Int32)))), .second, .val (.double (0 : UInt64)), .second, .val (.double (4652007308841189376 : UInt64)), .second, .unset] [(.ref b1_14)])) rfl (by rw [hml]; rfl) (Steps.refl _) (argsL := []) (rest := []) (lenOf pd_9 rfl) rfl (by show 2 * 0 + _ ≤ _; exact Nat.le_of_eq rfl) (hb hby at_116) (fun _ _ => ⟨rfl, e40, (by decide : 3 + 0 ≤ _), (by decide : 8 + 0 ≤ _)⟩)
  dsimp only [Pt.U, Pt.locs, Pt.cells, Pt.slots] at X47 l47 y47 z47 st47 hQ47
  subst l47 y47 z47
  obtain ⟨rfl, N47q, eh47⟩ := hQ47
  have N47 := Fr.app N40 N47q
  have e47 : T47.heap = h40 := eh47
  obtain ⟨cq48, kq48, q48a, q48b, q48c⟩ := isOf hZ e47 f42
  obtain ⟨_, _, ⟨T48, L48, k48, n48⟩, -, X48, ⟨Lc48, hQ48, l48, y48, z48⟩, st48⟩ := X47.virtualBack hx (y := (⟨"com/example/hedgeway/hedgeway/routing/Lambdas", "errorBound", "()D"⟩ : MethodName)) (z := (⟨"com/example/hedgeway/hedgeway/routing/Lambdas", "errorBound", "()D"⟩ : MethodName)) hown (mvT hZ (hw _ (List.mem_of_getElem? (i := 32) rfl))) (mvT hZ (hw _ (List.mem_of_getElem? (i := 33) rfl))) (notFace_of_selects (args := #[]) (mvT hZ (hw _ (List.mem_of_getElem? (i := 35) rfl)))) (mvT hZ (hw _ (List.mem_of_getElem? (i := 35) rfl))) (mvT hZ (hw _ (List.mem_of_getElem? (i := 34) rfl))) (by decide) (backOf (W := 0) (erb l Z a0 hw [] b1_14 b4_14 k1 (FP.i2d p3) (FP.i2d ia) (FP.i2d ib) (FP.i2d ic) h40 n0 Zs40 f43 f44 f42 f45) hZ (hw _ (List.mem_of_getElem? (i := 36) rfl)) (hw _ (List.mem_of_getElem? (i := 3) rfl)) (by decide) (by decide)) q48a q48c (g := (mkF m 128 #[.val (.int p0), .val (.int p1), .val (.int p2), .val (.int p3), .val (.int ia), .val (.int ib), .val (.int ic), .val (.double (FP.i2d ia)), .second, .val (.double (FP.i2d ib)), .second, .val (.double (FP.i2d ic)), .second, .val (.double (FP.i2d p3)), .second, .val (.ref b1), .val (.ref b1_14), .val (.double (FP.i2d (ic + (1 : Int32)))), .second, .val (.double (0 : UInt64)), .second, .val (.double (4652007308841189376 : UInt64)), .second, .val (.int (1 : Int32))] [(.ref b1_14)])) rfl (by rw [hml]; rfl) (Steps.refl _) (argsL := []) (rest := []) (lenOf pd_10 rfl) rfl (by show 2 * 0 + _ ≤ _; exact Nat.le_of_eq rfl) (hb hby at_128) (fun _ _ => ⟨rfl, e47, (by decide : 3 + 0 ≤ _), (by decide : 8 + 0 ≤ _)⟩)
  dsimp only [Pt.U, Pt.locs, Pt.cells, Pt.slots] at X48 l48 y48 z48 st48 hQ48
  subst l48 y48 z48
  obtain ⟨rfl, N48q, eh48⟩ := hQ48
  have N48 := Fr.app N47 N48q
  have e48 : T48.heap = h40 := eh48
  obtain ⟨cq49, kq49, q49a, q49b, q49c⟩ := isOf hZ e48 f42
  obtain ⟨_, _, ⟨T49, L49, k49, n49⟩, -, X49, ⟨Lc49, hQ49, l49, y49, z49⟩, st49⟩ := X48.virtualBack hx (y := (⟨"com/example/hedgeway/hedgeway/routing/Lambdas", "between", "(DDD)D"⟩ : MethodName)) (z := (⟨"com/example/hedgeway/hedgeway/routing/Lambdas", "between", "(DDD)D"⟩ : MethodName)) hown (mvT hZ (hw _ (List.mem_of_getElem? (i := 37) rfl))) (mvT hZ (hw _ (List.mem_of_getElem? (i := 38) rfl))) (notFace_of_selects (args := #[]) (mvT hZ (hw _ (List.mem_of_getElem? (i := 40) rfl)))) (mvT hZ (hw _ (List.mem_of_getElem? (i := 40) rfl))) (mvT hZ (hw _ (List.mem_of_getElem? (i := 39) rfl))) (by decide) (backOf (W := 0) (bt0 l Z a0 hw [] b1_14 b4_14 k1 (FP.i2d p3) (FP.i2d ia) (FP.i2d ib) (FP.i2d ic) (0 : UInt64) (4652007308841189376 : UInt64) (FP.i2d ia) u0 h40 n0 Zs40 f43 f44 f42 f45 hmin_19_157 hd33_5_5_2_19_157 hd49_5_5_2_19_157 hd33_1_5_5_2_19_157 hd49_1_5_5_2_19_157 hd33_5_5_9_19_157 hd33_1_5_5_9_19_157 nna36_19_157 nnb36_19_157 hq36_19_157 nna46_19_157 nnb46_19_157 hd33_5_5_54_19_157 hd49_5_5_54_19_157 hd33_1_5_5_54_19_157 hd49_1_5_5_54_19_157 hd2_1_64_5_5_54_19_157 hd2_1_70_5_5_54_19_157) hZ (hw _ (List.mem_of_getElem? (i := 41) rfl)) (hw _ (List.mem_of_getElem? (i := 3) rfl)) (by decide) (by decide)) q49a q49c (g := (mkF m 157 #[.val (.int p0), .val (.int p1), .val (.int p2), .val (.int p3), .val (.int ia), .val (.int ib), .val (.int ic), .val (.double (FP.i2d ia)), .second, .val (.double (FP.i2d ib)), .second, .val (.double (FP.i2d ic)), .second, .val (.double (FP.i2d p3)), .second, .val (.ref b1), .val (.ref b1_14), .val (.double (FP.i2d (ic + (1 : Int32)))), .second, .val (.double (0 : UInt64)), .second, .val (.double (4652007308841189376 : UInt64)), .second, .val (.int (1 : Int32))] [(.double (FP.i2d ia)), (.double (4652007308841189376 : UInt64)), (.double (0 : UInt64)), (.ref b1_14)])) rfl (by rw [hml]; rfl) (Steps.refl _) (argsL := [(.double (0 : UInt64)), (.double (4652007308841189376 : UInt64)), (.double (FP.i2d ia))]) (rest := []) (lenOf pd_6 rfl) rfl (by show 2 * 0 + _ ≤ _; exact Nat.le_of_eq rfl) (hb hby at_157) (fun _ _ => ⟨rfl, e48, (by decide : 3 + 0 ≤ _), (by decide : 8 + 0 ≤ _)⟩)
  dsimp only [Pt.U, Pt.locs, Pt.cells, Pt.slots] at X49 l49 y49 z49 st49 hQ49
  subst l49 y49 z49
  obtain ⟨rfl, N49q, eh49⟩ := hQ49
  have N49 := Fr.app N48 N49q
  have e49 : T49.heap = h40 := eh49
  obtain ⟨cq50, kq50, q50a, q50b, q50c⟩ := isOf hZ e49 f42
  obtain ⟨_, _, ⟨T50, L50, k50, n50⟩, -, X50, ⟨Lc50, hQ50, l50, y50, z50⟩, st50⟩ := X49.virtualBack hx (y := (⟨"com/example/hedgeway/hedgeway/routing/Lambdas", "between", "(DDD)D"⟩ : MethodName)) (z := (⟨"com/example/hedgeway/hedgeway/routing/Lambdas", "between", "(DDD)D"⟩ : MethodName)) hown (mvT hZ (hw _ (List.mem_of_getElem? (i := 37) rfl))) (mvT hZ (hw _ (List.mem_of_getElem? (i := 38) rfl))) (notFace_of_selects (args := #[]) (mvT hZ (hw _ (List.mem_of_getElem? (i := 40) rfl)))) (mvT hZ (hw _ (List.mem_of_getElem? (i := 40) rfl))) (mvT hZ (hw _ (List.mem_of_getElem? (i := 39) rfl))) (by decide) (backOf (W := 0) (bt1 l Z a0 hw [] b1_14 b4_14 k1 (FP.i2d p3) (FP.i2d ia) (FP.i2d ib) (FP.i2d ic) (0 : UInt64) (4652007308841189376 : UInt64) (FP.i2d ib) u1 h40 n0 Zs40 f43 f44 f42 f45 hmin_19_186 hd33_5_5_2_19_186 hd49_5_5_2_19_186 hd33_1_5_5_2_19_186 hd49_1_5_5_2_19_186 hd33_5_5_9_19_186 hd33_1_5_5_9_19_186 nna36_19_186 nnb36_19_186 hq36_19_186 nna46_19_186 nnb46_19_186 hd33_5_5_54_19_186 hd49_5_5_54_19_186 hd2_1_64_5_5_54_19_186 hd2_1_70_5_5_54_19_186 nn75_19_186 nn87_19_186 hc89_19_186) hZ (hw _ (List.mem_of_getElem? (i := 41) rfl)) (hw _ (List.mem_of_getElem? (i := 3) rfl)) (by decide) (by decide)) q50a q50c (g := (mkF m 186 #[.val (.int p0), .val (.int p1), .val (.int p2), .val (.int p3), .val (.int ia), .val (.int ib), .val (.int ic), .val (.double (FP.i2d ia)), .second, .val (.double (FP.i2d ib)), .second, .val (.double (FP.i2d ic)), .second, .val (.double (FP.i2d p3)), .second, .val (.ref b1), .val (.ref b1_14), .val (.double (FP.i2d (ic + (1 : Int32)))), .second, .val (.double (0 : UInt64)), .second, .val (.double (4652007308841189376 : UInt64)), .second, .val (.int (1 : Int32))] [(.double (FP.i2d ib)), (.double (4652007308841189376 : UInt64)), (.double (0 : UInt64)), (.ref b1_14)])) rfl (by rw [hml]; rfl) (Steps.refl _) (argsL := [(.double (0 : UInt64)), (.double (4652007308841189376 : UInt64)), (.double (FP.i2d ib))]) (rest := []) (lenOf pd_6 rfl) rfl (by show 2 * 0 + _ ≤ _; exact Nat.le_of_eq rfl) (hb hby at_186) (fun _ _ => ⟨rfl, e49, (by decide : 3 + 0 ≤ _), (by decide : 8 + 0 ≤ _)⟩)
  dsimp only [Pt.U, Pt.locs, Pt.cells, Pt.slots] at X50 l50 y50 z50 st50 hQ50
  subst l50 y50 z50
  obtain ⟨rfl, N50q, eh50⟩ := hQ50
  have N50 := Fr.app N49 N50q
  have e50 : T50.heap = h40 := eh50
  obtain ⟨cq51, kq51, q51a, q51b, q51c⟩ := isOf hZ e50 f42
  obtain ⟨_, _, ⟨T51, L51, k51, n51⟩, -, X51, ⟨Lc51, hQ51, l51, y51, z51⟩, st51⟩ := X50.virtualBack hx (y := (⟨"com/example/hedgeway/hedgeway/routing/Lambdas", "between", "(DDD)D"⟩ : MethodName)) (z := (⟨"com/example/hedgeway/hedgeway/routing/Lambdas", "between", "(DDD)D"⟩ : MethodName)) hown (mvT hZ (hw _ (List.mem_of_getElem? (i := 37) rfl))) (mvT hZ (hw _ (List.mem_of_getElem? (i := 38) rfl))) (notFace_of_selects (args := #[]) (mvT hZ (hw _ (List.mem_of_getElem? (i := 40) rfl)))) (mvT hZ (hw _ (List.mem_of_getElem? (i := 40) rfl))) (mvT hZ (hw _ (List.mem_of_getElem? (i := 39) rfl))) (by decide) (backOf (W := 0) (bt2 l Z a0 hw [] b1_14 b4_14 k1 (FP.i2d p3) (FP.i2d ia) (FP.i2d ib) (FP.i2d ic) (0 : UInt64) (4652007308841189376 : UInt64) (FP.i2d ic) u2 h40 n0 Zs40 f43 f44 f42 f45 hmin_19_215 hd33_5_5_2_19_215 hd49_5_5_2_19_215 hd33_1_5_5_2_19_215 hd49_1_5_5_2_19_215 hd33_5_5_9_19_215 hd33_1_5_5_9_19_215 nna36_19_215 nnb36_19_215 hq36_19_215 nna46_19_215 nnb46_19_215 hd33_5_5_54_19_215 hd33_1_5_5_54_19_215 hd49_5_5_54_19_215 hd2_1_64_5_5_54_19_215 hd2_1_70_5_5_54_19_215 nn75_19_215 nn87_19_215 hc89_19_215) hZ (hw _ (List.mem_of_getElem? (i := 41) rfl)) (hw _ (List.mem_of_getElem? (i := 3) rfl)) (by decide) (by decide)) q51a q51c (g := (mkF m 215 #[.val (.int p0), .val (.int p1), .val (.int p2), .val (.int p3), .val (.int ia), .val (.int ib), .val (.int ic), .val (.double (FP.i2d ia)), .second, .val (.double (FP.i2d ib)), .second, .val (.double (FP.i2d ic)), .second, .val (.double (FP.i2d p3)), .second, .val (.ref b1), .val (.ref b1_14), .val (.double (FP.i2d (ic + (1 : Int32)))), .second, .val (.double (0 : UInt64)), .second, .val (.double (4652007308841189376 : UInt64)), .second, .val (.int (1 : Int32))] [(.double (FP.i2d ic)), (.double (4652007308841189376 : UInt64)), (.double (0 : UInt64)), (.ref b1_14)])) rfl (by rw [hml]; rfl) (Steps.refl _) (argsL := [(.double (0 : UInt64)), (.double (4652007308841189376 : UInt64)), (.double (FP.i2d ic))]) (rest := []) (lenOf pd_6 rfl) rfl (by show 2 * 0 + _ ≤ _; exact Nat.le_of_eq rfl) (hb hby at_215) (fun _ _ => ⟨rfl, e50, (by decide : 3 + 0 ≤ _), (by decide : 8 + 0 ≤ _)⟩)
  dsimp only [Pt.U, Pt.locs, Pt.cells, Pt.slots] at X51 l51 y51 z51 st51 hQ51
  subst l51 y51 z51
  obtain ⟨rfl, N51q, eh51⟩ := hQ51
  have N51 := Fr.app N50 N51q
  have e51 : T51.heap = h40 := eh51
  obtain ⟨cq52, kq52, q52a, q52b, q52c⟩ := isOf hZ e51 f42
  obtain ⟨_, _, ⟨T52, L52, k52, n52⟩, -, X52, ⟨Lc52, hQ52, l52, y52, z52⟩, st52⟩ := X51.virtualBack hx (y := (⟨"com/example/hedgeway/hedgeway/routing/Lambdas", "between", "(DDD)D"⟩ : MethodName)) (z := (⟨"com/example/hedgeway/hedgeway/routing/Lambdas", "between", "(DDD)D"⟩ : MethodName)) hown (mvT hZ (hw _ (List.mem_of_getElem? (i := 37) rfl))) (mvT hZ (hw _ (List.mem_of_getElem? (i := 38) rfl))) (notFace_of_selects (args := #[]) (mvT hZ (hw _ (List.mem_of_getElem? (i := 40) rfl)))) (mvT hZ (hw _ (List.mem_of_getElem? (i := 40) rfl))) (mvT hZ (hw _ (List.mem_of_getElem? (i := 39) rfl))) (by decide) (backOf (W := 0) (bt0 l Z a0 hw [] b1_14 b4_14 k1 (FP.i2d p3) (FP.i2d ia) (FP.i2d ib) (FP.i2d ic) (0 : UInt64) (4652007308841189376 : UInt64) (0 : UInt64) u3 h40 n0 Zs40 f43 f44 f42 f45 hmin_19_243 hd33_5_5_2_19_243 hd49_5_5_2_19_243 hd33_1_5_5_2_19_243 hd49_1_5_5_2_19_243 hd33_5_5_9_19_243 hd33_1_5_5_9_19_243 nna36_19_243 nnb36_19_243 hq36_19_243 nna46_19_243 nnb46_19_243 hd33_5_5_54_19_243 hd49_5_5_54_19_243 hd33_1_5_5_54_19_243 hd49_1_5_5_54_19_243 hd2_1_64_5_5_54_19_243 hd2_1_70_5_5_54_19_243) hZ (hw _ (List.mem_of_getElem? (i := 41) rfl)) (hw _ (List.mem_of_getElem? (i := 3) rfl)) (by decide) (by decide)) q52a q52c (g := (mkF m 243 #[.val (.int p0), .val (.int p1), .val (.int p2), .val (.int p3), .val (.int ia), .val (.int ib), .val (.int ic), .val (.double (FP.i2d ia)), .second, .val (.double (FP.i2d ib)), .second, .val (.double (FP.i2d ic)), .second, .val (.double (FP.i2d p3)), .second, .val (.ref b1), .val (.ref b1_14), .val (.double (FP.i2d (ic + (1 : Int32)))), .second, .val (.double (0 : UInt64)), .second, .val (.double (4652007308841189376 : UInt64)), .second, .val (.int (1 : Int32))] [(.double (0 : UInt64)), (.double (4652007308841189376 : UInt64)), (.double (0 : UInt64)), (.ref b1_14)])) rfl (by rw [hml]; rfl) (Steps.refl _) (argsL := [(.double (0 : UInt64)), (.double (4652007308841189376 : UInt64)), (.double (0 : UInt64))]) (rest := []) (lenOf pd_6 rfl) rfl (by show 2 * 0 + _ ≤ _; exact Nat.le_of_eq rfl) (hb hby at_243) (fun _ _ => ⟨rfl, e51, (by decide : 3 + 0 ≤ _), (by decide : 8 + 0 ≤ _)⟩)
  dsimp only [Pt.U, Pt.locs, Pt.cells, Pt.slots] at X52 l52 y52 z52 st52 hQ52
  subst l52 y52 z52
  obtain ⟨rfl, N52q, eh52⟩ := hQ52
  have N52 := Fr.app N51 N52q
  have e52 : T52.heap = h40 := eh52
  obtain ⟨cq53, kq53, q53a, q53b, q53c⟩ := isOf hZ e52 f42
  obtain ⟨_, _, ⟨T53, L53, k53, n53⟩, -, X53, ⟨Lc53, hQ53, l53, y53, z53⟩, st53⟩ := X52.virtualBack hx (y := (⟨"com/example/hedgeway/hedgeway/routing/Lambdas", "between", "(DDD)D"⟩ : MethodName)) (z := (⟨"com/example/hedgeway/hedgeway/routing/Lambdas", "between", "(DDD)D"⟩ : MethodName)) hown (mvT hZ (hw _ (List.mem_of_getElem? (i := 37) rfl))) (mvT hZ (hw _ (List.mem_of_getElem? (i := 38) rfl))) (notFace_of_selects (args := #[]) (mvT hZ (hw _ (List.mem_of_getElem? (i := 40) rfl)))) (mvT hZ (hw _ (List.mem_of_getElem? (i := 40) rfl))) (mvT hZ (hw _ (List.mem_of_getElem? (i := 39) rfl))) (by decide) (backOf (W := 0) (bt2 l Z a0 hw [] b1_14 b4_14 k1 (FP.i2d p3) (FP.i2d ia) (FP.i2d ib) (FP.i2d ic) (0 : UInt64) (4652007308841189376 : UInt64) (4656510908468559872 : UInt64) u4 h40 n0 Zs40 f43 f44 f42 f45 hmin_19_273 hd33_5_5_2_19_273 hd49_5_5_2_19_273 hd33_1_5_5_2_19_273 hd49_1_5_5_2_19_273 hd33_5_5_9_19_273 hd33_1_5_5_9_19_273 nna36_19_273 nnb36_19_273 hq36_19_273 nna46_19_273 nnb46_19_273 hd33_5_5_54_19_273 hd33_1_5_5_54_19_273 hd49_5_5_54_19_273 hd2_1_64_5_5_54_19_273 hd2_1_70_5_5_54_19_273 nn75_19_273 nn87_19_273 hc89_19_273) hZ (hw _ (List.mem_of_getElem? (i := 41) rfl)) (hw _ (List.mem_of_getElem? (i := 3) rfl)) (by decide) (by decide)) q53a q53c (g := (mkF m 273 #[.val (.int p0), .val (.int p1), .val (.int p2), .val (.int p3), .val (.int ia), .val (.int ib), .val (.int ic), .val (.double (FP.i2d ia)), .second, .val (.double (FP.i2d ib)), .second, .val (.double (FP.i2d ic)), .second, .val (.double (FP.i2d p3)), .second, .val (.ref b1), .val (.ref b1_14), .val (.double (FP.i2d (ic + (1 : Int32)))), .second, .val (.double (0 : UInt64)), .second, .val (.double (4652007308841189376 : UInt64)), .second, .val (.int (1 : Int32))] [(.double (4656510908468559872 : UInt64)), (.double (4652007308841189376 : UInt64)), (.double (0 : UInt64)), (.ref b1_14)])) rfl (by rw [hml]; rfl) (Steps.refl _) (argsL := [(.double (0 : UInt64)), (.double (4652007308841189376 : UInt64)), (.double (4656510908468559872 : UInt64))]) (rest := []) (lenOf pd_6 rfl) rfl (by show 2 * 0 + _ ≤ _; exact Nat.le_of_eq rfl) (hb hby at_273) (fun _ _ => ⟨rfl, e52, (by decide : 3 + 0 ≤ _), (by decide : 8 + 0 ≤ _)⟩)
  dsimp only [Pt.U, Pt.locs, Pt.cells, Pt.slots] at X53 l53 y53 z53 st53 hQ53
  subst l53 y53 z53
  obtain ⟨rfl, N53q, eh53⟩ := hQ53
  have N53 := Fr.app N52 N53q
  have e53 : T53.heap = h40 := eh53
  obtain ⟨fs, hr, hrun, hended, hW, hsame⟩ := X53.leave (v := some (.int (1 : Int32))) (fun h => by rw [Bd.returns] at h; cases h)
  refine ⟨_, _, pre0 _ ?_, hrun, hended, _, _, rfl, ?_, ⟨_, rfl⟩, hW, hsame.mono (by decide) (by decide)⟩
  · show Steps p.tables e below (s₁.setTop (mkF m 0 #[.val (.int p0), .val (.int p1), .val (.int p2), .val (.int p3), .unset, .unset, .unset, .unset, .unset, .unset, .unset, .unset, .unset, .unset, .unset, .unset, .unset, .unset, .unset, .unset, .unset, .unset, .unset, .unset] [])) _
    refine XS.iconst X0.here hx rfl (hb hby at_0) ?_
    refine XS.iloadN X0.here hx rfl (hb hby at_1) rfl ?_
    refine XS.sipush X0.here hx rfl (hb hby at_2) ?_
    refine XS.iand X0.here hx rfl (hb hby at_5) rfl ?_
    refine XS.iadd X0.here hx rfl (hb hby at_6) rfl ?_
    show Steps p.tables e below (s₁.setTop (mkF m 7 #[.val (.int p0), .val (.int p1), .val (.int p2), .val (.int p3), .unset, .unset, .unset, .unset, .unset, .unset, .unset, .unset, .unset, .unset, .unset, .unset, .unset, .unset, .unset, .unset, .unset, .unset, .unset, .unset] [(.int ((1 : Int32) + (p0 &&& (255 : Int32))))])) _
    rw [hv6]
    show Steps p.tables e below (s₁.setTop (mkF m 7 #[.val (.int p0), .val (.int p1), .val (.int p2), .val (.int p3), .unset, .unset, .unset, .unset, .unset, .unset, .unset, .unset, .unset, .unset, .unset, .unset, .unset, .unset, .unset, .unset, .unset, .unset, .unset, .unset] [(.int ia)])) _
    refine XS.istore X0.here hx rfl (hb hby at_7) rfl (l' := #[.val (.int p0), .val (.int p1), .val (.int p2), .val (.int p3), .val (.int ia), .unset, .unset, .unset, .unset, .unset, .unset, .unset, .unset, .unset, .unset, .unset, .unset, .unset, .unset, .unset, .unset, .unset, .unset, .unset]) rfl ?_
    refine XS.iload X0.here hx rfl (hb hby at_9) rfl ?_
    refine XS.iconst X0.here hx rfl (hb hby at_11) ?_
    refine XS.iadd X0.here hx rfl (hb hby at_12) rfl ?_
    refine XS.iloadN X0.here hx rfl (hb hby at_13) rfl ?_
    show Steps p.tables e below (s₁.setTop (mkF m 14 #[.val (.int p0), .val (.int p1), .val (.int p2), .val (.int p3), .val (.int ia), .unset, .unset, .unset, .unset, .unset, .unset, .unset, .unset, .unset, .unset, .unset, .unset, .unset, .unset, .unset, .unset, .unset, .unset, .unset] [(.int p1), (.int (ia + (1 : Int32)))])) _
    refine XS.sipush X0.here hx rfl (hb hby at_14) ?_
    refine XS.iand X0.here hx rfl (hb hby at_17) rfl ?_
    refine XS.iadd X0.here hx rfl (hb hby at_18) rfl ?_
    show Steps p.tables e below (s₁.setTop (mkF m 19 #[.val (.int p0), .val (.int p1), .val (.int p2), .val (.int p3), .val (.int ia), .unset, .unset, .unset, .unset, .unset, .unset, .unset, .unset, .unset, .unset, .unset, .unset, .unset, .unset, .unset, .unset, .unset, .unset, .unset] [(.int ((ia + (1 : Int32)) + (p1 &&& (255 : Int32))))])) _
    rw [hv18]
    show Steps p.tables e below (s₁.setTop (mkF m 19 #[.val (.int p0), .val (.int p1), .val (.int p2), .val (.int p3), .val (.int ia), .unset, .unset, .unset, .unset, .unset, .unset, .unset, .unset, .unset, .unset, .unset, .unset, .unset, .unset, .unset, .unset, .unset, .unset, .unset] [(.int ib)])) _
    refine XS.istore X0.here hx rfl (hb hby at_19) rfl (l' := #[.val (.int p0), .val (.int p1), .val (.int p2), .val (.int p3), .val (.int ia), .val (.int ib), .unset, .unset, .unset, .unset, .unset, .unset, .unset, .unset, .unset, .unset, .unset, .unset, .unset, .unset, .unset, .unset, .unset, .unset]) rfl ?_
    refine XS.iload X0.here hx rfl (hb hby at_21) rfl ?_
    show Steps p.tables e below (s₁.setTop (mkF m 23 #[.val (.int p0), .val (.int p1), .val (.int p2), .val (.int p3), .val (.int ia), .val (.int ib), .unset, .unset, .unset, .unset, .unset, .unset, .unset, .unset, .unset, .unset, .unset, .unset, .unset, .unset, .unset, .unset, .unset, .unset] [(.int ib)])) _
    refine XS.iconst X0.here hx rfl (hb hby at_23) ?_
    refine XS.iadd X0.here hx rfl (hb hby at_24) rfl ?_
    refine XS.iloadN X0.here hx rfl (hb hby at_25) rfl ?_
    refine XS.sipush X0.here hx rfl (hb hby at_26) ?_
    refine XS.iand X0.here hx rfl (hb hby at_29) rfl ?_
    refine XS.iadd X0.here hx rfl (hb hby at_30) rfl ?_
    show Steps p.tables e below (s₁.setTop (mkF m 31 #[.val (.int p0), .val (.int p1), .val (.int p2), .val (.int p3), .val (.int ia), .val (.int ib), .unset, .unset, .unset, .unset, .unset, .unset, .unset, .unset, .unset, .unset, .unset, .unset, .unset, .unset, .unset, .unset, .unset, .unset] [(.int ((ib + (1 : Int32)) + (p2 &&& (255 : Int32))))])) _
    rw [hv30]
    show Steps p.tables e below (s₁.setTop (mkF m 31 #[.val (.int p0), .val (.int p1), .val (.int p2), .val (.int p3), .val (.int ia), .val (.int ib), .unset, .unset, .unset, .unset, .unset, .unset, .unset, .unset, .unset, .unset, .unset, .unset, .unset, .unset, .unset, .unset, .unset, .unset] [(.int ic)])) _
    refine XS.istore X0.here hx rfl (hb hby at_31) rfl (l' := #[.val (.int p0), .val (.int p1), .val (.int p2), .val (.int p3), .val (.int ia), .val (.int ib), .val (.int ic), .unset, .unset, .unset, .unset, .unset, .unset, .unset, .unset, .unset, .unset, .unset, .unset, .unset, .unset, .unset, .unset, .unset]) rfl ?_
    refine XS.iload X0.here hx rfl (hb hby at_33) rfl ?_
    refine XS.i2dS X0.here hx rfl (hb hby at_35) rfl (v := (FP.i2d ia)) rfl ?_
    refine XS.dstore X0.here hx rfl (hb hby at_36) rfl (l' := #[.val (.int p0), .val (.int p1), .val (.int p2), .val (.int p3), .val (.int ia), .val (.int ib), .val (.int ic), .val (.double (FP.i2d ia)), .second, .unset, .unset, .unset, .unset, .unset, .unset, .unset, .unset, .unset, .unset, .unset, .unset, .unset, .unset, .unset]) rfl ?_
    refine XS.iload X0.here hx rfl (hb hby at_38) rfl ?_
    show Steps p.tables e below (s₁.setTop (mkF m 40 #[.val (.int p0), .val (.int p1), .val (.int p2), .val (.int p3), .val (.int ia), .val (.int ib), .val (.int ic), .val (.double (FP.i2d ia)), .second, .unset, .unset, .unset, .unset, .unset, .unset, .unset, .unset, .unset, .unset, .unset, .unset, .unset, .unset, .unset] [(.int ib)])) _
    refine XS.i2dS X0.here hx rfl (hb hby at_40) rfl (v := (FP.i2d ib)) rfl ?_
    refine XS.dstore X0.here hx rfl (hb hby at_41) rfl (l' := #[.val (.int p0), .val (.int p1), .val (.int p2), .val (.int p3), .val (.int ia), .val (.int ib), .val (.int ic), .val (.double (FP.i2d ia)), .second, .val (.double (FP.i2d ib)), .second, .unset, .unset, .unset, .unset, .unset, .unset, .unset, .unset, .unset, .unset, .unset, .unset, .unset]) rfl ?_
    refine XS.iload X0.here hx rfl (hb hby at_43) rfl ?_
    refine XS.i2dS X0.here hx rfl (hb hby at_45) rfl (v := (FP.i2d ic)) rfl ?_
    refine XS.dstore X0.here hx rfl (hb hby at_46) rfl (l' := #[.val (.int p0), .val (.int p1), .val (.int p2), .val (.int p3), .val (.int ia), .val (.int ib), .val (.int ic), .val (.double (FP.i2d ia)), .second, .val (.double (FP.i2d ib)), .second, .val (.double (FP.i2d ic)), .second, .unset, .unset, .unset, .unset, .unset, .unset, .unset, .unset, .unset, .unset, .unset]) rfl ?_
    refine XS.iloadN X0.here hx rfl (hb hby at_48) rfl ?_
    show Steps p.tables e below (s₁.setTop (mkF m 49 #[.val (.int p0), .val (.int p1), .val (.int p2), .val (.int p3), .val (.int ia), .val (.int ib), .val (.int ic), .val (.double (FP.i2d ia)), .second, .val (.double (FP.i2d ib)), .second, .val (.double (FP.i2d ic)), .second, .unset, .unset, .unset, .unset, .unset, .unset, .unset, .unset, .unset, .unset, .unset] [(.int p3)])) _
    refine XS.i2dS X0.here hx rfl (hb hby at_49) rfl (v := (FP.i2d p3)) rfl ?_
    refine XS.dstore X0.here hx rfl (hb hby at_50) rfl (l' := #[.val (.int p0), .val (.int p1), .val (.int p2), .val (.int p3), .val (.int ia), .val (.int ib), .val (.int ic), .val (.double (FP.i2d ia)), .second, .val (.double (FP.i2d ib)), .second, .val (.double (FP.i2d ic)), .second, .val (.double (FP.i2d p3)), .second, .unset, .unset, .unset, .unset, .unset, .unset, .unset, .unset, .unset]) rfl ?_
    refine XS.iconst X0.here hx rfl (hb hby at_52) ?_
    refine st1 _ ?_
    show Steps p.tables e below (T1.setTop (mkF m 55 #[.val (.int p0), .val (.int p1), .val (.int p2), .val (.int p3), .val (.int ia), .val (.int ib), .val (.int ic), .val (.double (FP.i2d ia)), .second, .val (.double (FP.i2d ib)), .second, .val (.double (FP.i2d ic)), .second, .val (.double (FP.i2d p3)), .second, .unset, .unset, .unset, .unset, .unset, .unset, .unset, .unset, .unset] [(.ref b1)])) _
    refine XS.dup X1.here hx rfl (hb hby at_55) rfl rfl ?_
    refine XS.iconst X1.here hx rfl (hb hby at_56) ?_
    show Steps p.tables e below (T1.setTop (mkF m 57 #[.val (.int p0), .val (.int p1), .val (.int p2), .val (.int p3), .val (.int ia), .val (.int ib), .val (.int ic), .val (.double (FP.i2d ia)), .second, .val (.double (FP.i2d ib)), .second, .val (.double (FP.i2d ic)), .second, .val (.double (FP.i2d p3)), .second, .unset, .unset, .unset, .unset, .unset, .unset, .unset, .unset, .unset] [(.int (0 : Int32)), (.ref b1), (.ref b1)])) _
    refine XS.dload X1.here hx rfl (hb hby at_57) rfl ?_
    refine st3 _ ?_
    show Steps p.tables e below (T3.setTop (mkF m 60 #[.val (.int p0), .val (.int p1), .val (.int p2), .val (.int p3), .val (.int ia), .val (.int ib), .val (.int ic), .val (.double (FP.i2d ia)), .second, .val (.double (FP.i2d ib)), .second, .val (.double (FP.i2d ic)), .second, .val (.double (FP.i2d p3)), .second, .unset, .unset, .unset, .unset, .unset, .unset, .unset, .unset, .unset] [(.ref b1)])) _
    refine XS.dup X3.here hx rfl (hb hby at_60) rfl rfl ?_
    refine XS.iconst X3.here hx rfl (hb hby at_61) ?_
    refine XS.dload X3.here hx rfl (hb hby at_62) rfl ?_
    refine st7 _ ?_
    show Steps p.tables e below (T7.setTop (mkF m 65 #[.val (.int p0), .val (.int p1), .val (.int p2), .val (.int p3), .val (.int ia), .val (.int ib), .val (.int ic), .val (.double (FP.i2d ia)), .second, .val (.double (FP.i2d ib)), .second, .val (.double (FP.i2d ic)), .second, .val (.double (FP.i2d p3)), .second, .unset, .unset, .unset, .unset, .unset, .unset, .unset, .unset, .unset] [(.ref b1)])) _
    refine XS.dup X7.here hx rfl (hb hby at_65) rfl rfl ?_
    refine XS.iconst X7.here hx rfl (hb hby at_66) ?_
    refine XS.dload X7.here hx rfl (hb hby at_67) rfl ?_
    refine st11 _ ?_
    show Steps p.tables e below (T11.setTop (mkF m 70 #[.val (.int p0), .val (.int p1), .val (.int p2), .val (.int p3), .val (.int ia), .val (.int ib), .val (.int ic), .val (.double (FP.i2d ia)), .second, .val (.double (FP.i2d ib)), .second, .val (.double (FP.i2d ic)), .second, .val (.double (FP.i2d p3)), .second, .unset, .unset, .unset, .unset, .unset, .unset, .unset, .unset, .unset] [(.ref b1)])) _
    refine XS.astore X11.here hx rfl (hb hby at_70) rfl rfl (l' := #[.val (.int p0), .val (.int p1), .val (.int p2), .val (.int p3), .val (.int ia), .val (.int ib), .val (.int ic), .val (.double (FP.i2d ia)), .second, .val (.double (FP.i2d ib)), .second, .val (.double (FP.i2d ic)), .second, .val (.double (FP.i2d p3)), .second, .val (.ref b1), .unset, .unset, .unset, .unset, .unset, .unset, .unset, .unset]) rfl ?_
    refine XS.aload X11.here hx rfl (hb hby at_72) rfl rfl ?_
    show Steps p.tables e below (T11.setTop (mkF m 74 #[.val (.int p0), .val (.int p1), .val (.int p2), .val (.int p3), .val (.int ia), .val (.int ib), .val (.int ic), .val (.double (FP.i2d ia)), .second, .val (.double (FP.i2d ib)), .second, .val (.double (FP.i2d ic)), .second, .val (.double (FP.i2d p3)), .second, .val (.ref b1), .unset, .unset, .unset, .unset, .unset, .unset, .unset, .unset] [(.ref b1)])) _
    refine XS.dload X11.here hx rfl (hb hby at_74) rfl ?_
    refine st14 _ ?_
    show Steps p.tables e below (T14.setTop (mkF m 79 #[.val (.int p0), .val (.int p1), .val (.int p2), .val (.int p3), .val (.int ia), .val (.int ib), .val (.int ic), .val (.double (FP.i2d ia)), .second, .val (.double (FP.i2d ib)), .second, .val (.double (FP.i2d ic)), .second, .val (.double (FP.i2d p3)), .second, .val (.ref b1), .unset, .unset, .unset, .unset, .unset, .unset, .unset, .unset] [(.ref b1_14)])) _
    refine XS.astore X14.here hx rfl (hb hby at_79) rfl rfl (l' := #[.val (.int p0), .val (.int p1), .val (.int p2), .val (.int p3), .val (.int ia), .val (.int ib), .val (.int ic), .val (.double (FP.i2d ia)), .second, .val (.double (FP.i2d ib)), .second, .val (.double (FP.i2d ic)), .second, .val (.double (FP.i2d p3)), .second, .val (.ref b1), .val (.ref b1_14), .unset, .unset, .unset, .unset, .unset, .unset, .unset]) rfl ?_
    refine XS.iload X14.here hx rfl (hb hby at_81) rfl ?_
    refine XS.iconst X14.here hx rfl (hb hby at_83) ?_
    refine XS.iadd X14.here hx rfl (hb hby at_84) rfl ?_
    show Steps p.tables e below (T14.setTop (mkF m 85 #[.val (.int p0), .val (.int p1), .val (.int p2), .val (.int p3), .val (.int ia), .val (.int ib), .val (.int ic), .val (.double (FP.i2d ia)), .second, .val (.double (FP.i2d ib)), .second, .val (.double (FP.i2d ic)), .second, .val (.double (FP.i2d p3)), .second, .val (.ref b1), .val (.ref b1_14), .unset, .unset, .unset, .unset, .unset, .unset, .unset] [(.int (ic + (1 : Int32)))])) _
    refine XS.i2dS X14.here hx rfl (hb hby at_85) rfl (v := (FP.i2d (ic + (1 : Int32)))) rfl ?_
    refine XS.dstore X14.here hx rfl (hb hby at_86) rfl (l' := #[.val (.int p0), .val (.int p1), .val (.int p2), .val (.int p3), .val (.int ia), .val (.int ib), .val (.int ic), .val (.double (FP.i2d ia)), .second, .val (.double (FP.i2d ib)), .second, .val (.double (FP.i2d ic)), .second, .val (.double (FP.i2d p3)), .second, .val (.ref b1), .val (.ref b1_14), .val (.double (FP.i2d (ic + (1 : Int32)))), .second, .unset, .unset, .unset, .unset, .unset]) rfl ?_
    refine XS.aload X14.here hx rfl (hb hby at_88) rfl rfl ?_
    refine XS.iconst X14.here hx rfl (hb hby at_90) ?_
    refine XS.dload X14.here hx rfl (hb hby at_91) rfl ?_
    refine st24 _ ?_
    show Steps p.tables e below (T24.setTop (mkF m 94 #[.val (.int p0), .val (.int p1), .val (.int p2), .val (.int p3), .val (.int ia), .val (.int ib), .val (.int ic), .val (.double (FP.i2d ia)), .second, .val (.double (FP.i2d ib)), .second, .val (.double (FP.i2d ic)), .second, .val (.double (FP.i2d p3)), .second, .val (.ref b1), .val (.ref b1_14), .val (.double (FP.i2d (ic + (1 : Int32)))), .second, .unset, .unset, .unset, .unset, .unset] [])) _
    refine XS.aload X24.here hx rfl (hb hby at_94) rfl rfl ?_
    refine XS.iconst X24.here hx rfl (hb hby at_96) ?_
    refine XS.dload X24.here hx rfl (hb hby at_97) rfl ?_
    refine st32 _ ?_
    show Steps p.tables e below (T32.setTop (mkF m 100 #[.val (.int p0), .val (.int p1), .val (.int p2), .val (.int p3), .val (.int ia), .val (.int ib), .val (.int ic), .val (.double (FP.i2d ia)), .second, .val (.double (FP.i2d ib)), .second, .val (.double (FP.i2d ic)), .second, .val (.double (FP.i2d p3)), .second, .val (.ref b1), .val (.ref b1_14), .val (.double (FP.i2d (ic + (1 : Int32)))), .second, .unset, .unset, .unset, .unset, .unset] [])) _
    refine XS.aload X32.here hx rfl (hb hby at_100) rfl rfl ?_
    refine XS.iconst X32.here hx rfl (hb hby at_102) ?_
    show Steps p.tables e below (T32.setTop (mkF m 103 #[.val (.int p0), .val (.int p1), .val (.int p2), .val (.int p3), .val (.int ia), .val (.int ib), .val (.int ic), .val (.double (FP.i2d ia)), .second, .val (.double (FP.i2d ib)), .second, .val (.double (FP.i2d ic)), .second, .val (.double (FP.i2d p3)), .second, .val (.ref b1), .val (.ref b1_14), .val (.double (FP.i2d (ic + (1 : Int32)))), .second, .unset, .unset, .unset, .unset, .unset] [(.int (2 : Int32)), (.ref b1)])) _
    refine XS.dload X32.here hx rfl (hb hby at_103) rfl ?_
    refine st40 _ ?_
    show Steps p.tables e below (T40.setTop (mkF m 106 #[.val (.int p0), .val (.int p1), .val (.int p2), .val (.int p3), .val (.int ia), .val (.int ib), .val (.int ic), .val (.double (FP.i2d ia)), .second, .val (.double (FP.i2d ib)), .second, .val (.double (FP.i2d ic)), .second, .val (.double (FP.i2d p3)), .second, .val (.ref b1), .val (.ref b1_14), .val (.double (FP.i2d (ic + (1 : Int32)))), .second, .unset, .unset, .unset, .unset, .unset] [])) _
    refine XS.dconst0 X40.here hx rfl (hb hby at_106) (v := (0 : UInt64)) rfl ?_
    refine XS.dstore X40.here hx rfl (hb hby at_107) rfl (l' := #[.val (.int p0), .val (.int p1), .val (.int p2), .val (.int p3), .val (.int ia), .val (.int ib), .val (.int ic), .val (.double (FP.i2d ia)), .second, .val (.double (FP.i2d ib)), .second, .val (.double (FP.i2d ic)), .second, .val (.double (FP.i2d p3)), .second, .val (.ref b1), .val (.ref b1_14), .val (.double (FP.i2d (ic + (1 : Int32)))), .second, .val (.double (0 : UInt64)), .second, .unset, .unset, .unset]) rfl ?_
    refine X40.ldc2DoubleC hx hown (mvT hZ (hw _ (List.mem_of_getElem? (i := 26) rfl))) (g := (mkF m 109 #[.val (.int p0), .val (.int p1), .val (.int p2), .val (.int p3), .val (.int ia), .val (.int ib), .val (.int ic), .val (.double (FP.i2d ia)), .second, .val (.double (FP.i2d ib)), .second, .val (.double (FP.i2d ic)), .second, .val (.double (FP.i2d p3)), .second, .val (.ref b1), .val (.ref b1_14), .val (.double (FP.i2d (ic + (1 : Int32)))), .second, .val (.double (0 : UInt64)), .second, .unset, .unset, .unset] [])) rfl (hb hby at_109) _ ?_
    show Steps p.tables e below (T40.setTop (mkF m 112 #[.val (.int p0), .val (.int p1), .val (.int p2), .val (.int p3), .val (.int ia), .val (.int ib), .val (.int ic), .val (.double (FP.i2d ia)), .second, .val (.double (FP.i2d ib)), .second, .val (.double (FP.i2d ic)), .second, .val (.double (FP.i2d p3)), .second, .val (.ref b1), .val (.ref b1_14), .val (.double (FP.i2d (ic + (1 : Int32)))), .second, .val (.double (0 : UInt64)), .second, .unset, .unset, .unset] [(.double (4652007308841189376 : UInt64))])) _
    refine XS.dstore X40.here hx rfl (hb hby at_112) rfl (l' := #[.val (.int p0), .val (.int p1), .val (.int p2), .val (.int p3), .val (.int ia), .val (.int ib), .val (.int ic), .val (.double (FP.i2d ia)), .second, .val (.double (FP.i2d ib)), .second, .val (.double (FP.i2d ic)), .second, .val (.double (FP.i2d p3)), .second, .val (.ref b1), .val (.ref b1_14), .val (.double (FP.i2d (ic + (1 : Int32)))), .second, .val (.double (0 : UInt64)), .second, .val (.double (4652007308841189376 : UInt64)), .second, .unset]) rfl ?_
    show Steps p.tables e below (T40.setTop (mkF m 114 #[.val (.int p0), .val (.int p1), .val (.int p2), .val (.int p3), .val (.int ia), .val (.int ib), .val (.int ic), .val (.double (FP.i2d ia)), .second, .val (.double (FP.i2d ib)), .second, .val (.double (FP.i2d ic)), .second, .val (.double (FP.i2d p3)), .second, .val (.ref b1), .val (.ref b1_14), .val (.double (FP.i2d (ic + (1 : Int32)))), .second, .val (.double (0 : UInt64)), .second, .val (.double (4652007308841189376 : UInt64)), .second, .unset] [])) _
    refine XS.aload X40.here hx rfl (hb hby at_114) rfl rfl ?_
    refine st47.trans ?_
    show Steps p.tables e below (T47.setTop (mkF m 119 #[.val (.int p0), .val (.int p1), .val (.int p2), .val (.int p3), .val (.int ia), .val (.int ib), .val (.int ic), .val (.double (FP.i2d ia)), .second, .val (.double (FP.i2d ib)), .second, .val (.double (FP.i2d ic)), .second, .val (.double (FP.i2d p3)), .second, .val (.ref b1), .val (.ref b1_14), .val (.double (FP.i2d (ic + (1 : Int32)))), .second, .val (.double (0 : UInt64)), .second, .val (.double (4652007308841189376 : UInt64)), .second, .unset] [(.int (1 : Int32))])) _
    refine XS.istore X47.here hx rfl (hb hby at_119) rfl (l' := #[.val (.int p0), .val (.int p1), .val (.int p2), .val (.int p3), .val (.int ia), .val (.int ib), .val (.int ic), .val (.double (FP.i2d ia)), .second, .val (.double (FP.i2d ib)), .second, .val (.double (FP.i2d ic)), .second, .val (.double (FP.i2d p3)), .second, .val (.ref b1), .val (.ref b1_14), .val (.double (FP.i2d (ic + (1 : Int32)))), .second, .val (.double (0 : UInt64)), .second, .val (.double (4652007308841189376 : UInt64)), .second, .val (.int (1 : Int32))]) rfl ?_
    refine XS.iload X47.here hx rfl (hb hby at_121) rfl ?_
    refine XS.ifNo X47.here hx rfl (hb hby at_123) rfl ((if0 _ _).trans (feq (by decide : ¬ ((1 : Int32) = (0 : Int32)))).1) ?_
    refine XS.aload X47.here hx rfl (hb hby at_126) rfl rfl ?_
    show Steps p.tables e below (T47.setTop (mkF m 128 #[.val (.int p0), .val (.int p1), .val (.int p2), .val (.int p3), .val (.int ia), .val (.int ib), .val (.int ic), .val (.double (FP.i2d ia)), .second, .val (.double (FP.i2d ib)), .second, .val (.double (FP.i2d ic)), .second, .val (.double (FP.i2d p3)), .second, .val (.ref b1), .val (.ref b1_14), .val (.double (FP.i2d (ic + (1 : Int32)))), .second, .val (.double (0 : UInt64)), .second, .val (.double (4652007308841189376 : UInt64)), .second, .val (.int (1 : Int32))] [(.ref b1_14)])) _
    refine st48.trans ?_
    show Steps p.tables e below (T48.setTop (mkF m 131 #[.val (.int p0), .val (.int p1), .val (.int p2), .val (.int p3), .val (.int ia), .val (.int ib), .val (.int ic), .val (.double (FP.i2d ia)), .second, .val (.double (FP.i2d ib)), .second, .val (.double (FP.i2d ic)), .second, .val (.double (FP.i2d p3)), .second, .val (.ref b1), .val (.ref b1_14), .val (.double (FP.i2d (ic + (1 : Int32)))), .second, .val (.double (0 : UInt64)), .second, .val (.double (4652007308841189376 : UInt64)), .second, .val (.int (1 : Int32))] [(.double (FP.i2d p3))])) _
    refine XS.dload X48.here hx rfl (hb hby at_131) rfl ?_
    refine XS.dcmpS X48.here hx rfl (hb hby at_133) rfl (v := (0 : Int32)) hd133 ?_
    refine XS.ifNo X48.here hx rfl (hb hby at_134) rfl ((if0 _ _).trans (teq (by decide : (0 : Int32) = (0 : Int32))).2) ?_
    refine XS.iconst X48.here hx rfl (hb hby at_137) ?_
    refine XS.goto X48.here hx rfl (pc0 := 138) (pc' := 142) rfl (hb hby at_138) (by decide) (by decide) ?_
    show Steps p.tables e below (T48.setTop (mkF m 142 #[.val (.int p0), .val (.int p1), .val (.int p2), .val (.int p3), .val (.int ia), .val (.int ib), .val (.int ic), .val (.double (FP.i2d ia)), .second, .val (.double (FP.i2d ib)), .second, .val (.double (FP.i2d ic)), .second, .val (.double (FP.i2d p3)), .second, .val (.ref b1), .val (.ref b1_14), .val (.double (FP.i2d (ic + (1 : Int32)))), .second, .val (.double (0 : UInt64)), .second, .val (.double (4652007308841189376 : UInt64)), .second, .val (.int (1 : Int32))] [(.int (1 : Int32))])) _
    refine XS.istore X48.here hx rfl (hb hby at_142) rfl (l' := #[.val (.int p0), .val (.int p1), .val (.int p2), .val (.int p3), .val (.int ia), .val (.int ib), .val (.int ic), .val (.double (FP.i2d ia)), .second, .val (.double (FP.i2d ib)), .second, .val (.double (FP.i2d ic)), .second, .val (.double (FP.i2d p3)), .second, .val (.ref b1), .val (.ref b1_14), .val (.double (FP.i2d (ic + (1 : Int32)))), .second, .val (.double (0 : UInt64)), .second, .val (.double (4652007308841189376 : UInt64)), .second, .val (.int (1 : Int32))]) rfl ?_
    refine XS.iload X48.here hx rfl (hb hby at_144) rfl ?_
    refine XS.ifNo X48.here hx rfl (hb hby at_146) rfl ((if0 _ _).trans (feq (by decide : ¬ ((1 : Int32) = (0 : Int32)))).1) ?_
    refine XS.aload X48.here hx rfl (hb hby at_149) rfl rfl ?_
    refine XS.dload X48.here hx rfl (hb hby at_151) rfl ?_
    refine XS.dload X48.here hx rfl (hb hby at_153) rfl ?_
    show Steps p.tables e below (T48.setTop (mkF m 155 #[.val (.int p0), .val (.int p1), .val (.int p2), .val (.int p3), .val (.int ia), .val (.int ib), .val (.int ic), .val (.double (FP.i2d ia)), .second, .val (.double (FP.i2d ib)), .second, .val (.double (FP.i2d ic)), .second, .val (.double (FP.i2d p3)), .second, .val (.ref b1), .val (.ref b1_14), .val (.double (FP.i2d (ic + (1 : Int32)))), .second, .val (.double (0 : UInt64)), .second, .val (.double (4652007308841189376 : UInt64)), .second, .val (.int (1 : Int32))] [(.double (4652007308841189376 : UInt64)), (.double (0 : UInt64)), (.ref b1_14)])) _
    refine XS.dload X48.here hx rfl (hb hby at_155) rfl ?_
    refine st49.trans ?_
    show Steps p.tables e below (T49.setTop (mkF m 160 #[.val (.int p0), .val (.int p1), .val (.int p2), .val (.int p3), .val (.int ia), .val (.int ib), .val (.int ic), .val (.double (FP.i2d ia)), .second, .val (.double (FP.i2d ib)), .second, .val (.double (FP.i2d ic)), .second, .val (.double (FP.i2d p3)), .second, .val (.ref b1), .val (.ref b1_14), .val (.double (FP.i2d (ic + (1 : Int32)))), .second, .val (.double (0 : UInt64)), .second, .val (.double (4652007308841189376 : UInt64)), .second, .val (.int (1 : Int32))] [(.double (FP.i2d ia))])) _
    refine XS.dload X49.here hx rfl (hb hby at_160) rfl ?_
    refine XS.dcmpS X49.here hx rfl (hb hby at_162) rfl (v := (0 : Int32)) hd162 ?_
    refine XS.ifNo X49.here hx rfl (hb hby at_163) rfl ((if0 _ _).trans (teq (by decide : (0 : Int32) = (0 : Int32))).2) ?_
    refine XS.iconst X49.here hx rfl (hb hby at_166) ?_
    show Steps p.tables e below (T49.setTop (mkF m 167 #[.val (.int p0), .val (.int p1), .val (.int p2), .val (.int p3), .val (.int ia), .val (.int ib), .val (.int ic), .val (.double (FP.i2d ia)), .second, .val (.double (FP.i2d ib)), .second, .val (.double (FP.i2d ic)), .second, .val (.double (FP.i2d p3)), .second, .val (.ref b1), .val (.ref b1_14), .val (.double (FP.i2d (ic + (1 : Int32)))), .second, .val (.double (0 : UInt64)), .second, .val (.double (4652007308841189376 : UInt64)), .second, .val (.int (1 : Int32))] [(.int (1 : Int32))])) _
    refine XS.goto X49.here hx rfl (pc0 := 167) (pc' := 171) rfl (hb hby at_167) (by decide) (by decide) ?_
    refine XS.istore X49.here hx rfl (hb hby at_171) rfl (l' := #[.val (.int p0), .val (.int p1), .val (.int p2), .val (.int p3), .val (.int ia), .val (.int ib), .val (.int ic), .val (.double (FP.i2d ia)), .second, .val (.double (FP.i2d ib)), .second, .val (.double (FP.i2d ic)), .second, .val (.double (FP.i2d p3)), .second, .val (.ref b1), .val (.ref b1_14), .val (.double (FP.i2d (ic + (1 : Int32)))), .second, .val (.double (0 : UInt64)), .second, .val (.double (4652007308841189376 : UInt64)), .second, .val (.int (1 : Int32))]) rfl ?_
    refine XS.iload X49.here hx rfl (hb hby at_173) rfl ?_
    refine XS.ifNo X49.here hx rfl (hb hby at_175) rfl ((if0 _ _).trans (feq (by decide : ¬ ((1 : Int32) = (0 : Int32)))).1) ?_
    refine XS.aload X49.here hx rfl (hb hby at_178) rfl rfl ?_
    refine XS.dload X49.here hx rfl (hb hby at_180) rfl ?_
    show Steps p.tables e below (T49.setTop (mkF m 182 #[.val (.int p0), .val (.int p1), .val (.int p2), .val (.int p3), .val (.int ia), .val (.int ib), .val (.int ic), .val (.double (FP.i2d ia)), .second, .val (.double (FP.i2d ib)), .second, .val (.double (FP.i2d ic)), .second, .val (.double (FP.i2d p3)), .second, .val (.ref b1), .val (.ref b1_14), .val (.double (FP.i2d (ic + (1 : Int32)))), .second, .val (.double (0 : UInt64)), .second, .val (.double (4652007308841189376 : UInt64)), .second, .val (.int (1 : Int32))] [(.double (0 : UInt64)), (.ref b1_14)])) _
    refine XS.dload X49.here hx rfl (hb hby at_182) rfl ?_
    refine XS.dload X49.here hx rfl (hb hby at_184) rfl ?_
    refine st50.trans ?_
    show Steps p.tables e below (T50.setTop (mkF m 189 #[.val (.int p0), .val (.int p1), .val (.int p2), .val (.int p3), .val (.int ia), .val (.int ib), .val (.int ic), .val (.double (FP.i2d ia)), .second, .val (.double (FP.i2d ib)), .second, .val (.double (FP.i2d ic)), .second, .val (.double (FP.i2d p3)), .second, .val (.ref b1), .val (.ref b1_14), .val (.double (FP.i2d (ic + (1 : Int32)))), .second, .val (.double (0 : UInt64)), .second, .val (.double (4652007308841189376 : UInt64)), .second, .val (.int (1 : Int32))] [(.double (FP.i2d ib))])) _
    refine XS.dload X50.here hx rfl (hb hby at_189) rfl ?_
    refine XS.dcmpS X50.here hx rfl (hb hby at_191) rfl (v := (0 : Int32)) hd191 ?_
    refine XS.ifNo X50.here hx rfl (hb hby at_192) rfl ((if0 _ _).trans (teq (by decide : (0 : Int32) = (0 : Int32))).2) ?_
    show Steps p.tables e below (T50.setTop (mkF m 195 #[.val (.int p0), .val (.int p1), .val (.int p2), .val (.int p3), .val (.int ia), .val (.int ib), .val (.int ic), .val (.double (FP.i2d ia)), .second, .val (.double (FP.i2d ib)), .second, .val (.double (FP.i2d ic)), .second, .val (.double (FP.i2d p3)), .second, .val (.ref b1), .val (.ref b1_14), .val (.double (FP.i2d (ic + (1 : Int32)))), .second, .val (.double (0 : UInt64)), .second, .val (.double (4652007308841189376 : UInt64)), .second, .val (.int (1 : Int32))] [])) _
    refine XS.iconst X50.here hx rfl (hb hby at_195) ?_
    refine XS.goto X50.here hx rfl (pc0 := 196) (pc' := 200) rfl (hb hby at_196) (by decide) (by decide) ?_
    refine XS.istore X50.here hx rfl (hb hby at_200) rfl (l' := #[.val (.int p0), .val (.int p1), .val (.int p2), .val (.int p3), .val (.int ia), .val (.int ib), .val (.int ic), .val (.double (FP.i2d ia)), .second, .val (.double (FP.i2d ib)), .second, .val (.double (FP.i2d ic)), .second, .val (.double (FP.i2d p3)), .second, .val (.ref b1), .val (.ref b1_14), .val (.double (FP.i2d (ic + (1 : Int32)))), .second, .val (.double (0 : UInt64)), .second, .val (.double (4652007308841189376 : UInt64)), .second, .val (.int (1 : Int32))]) rfl ?_
    refine XS.iload X50.here hx rfl (hb hby at_202) rfl ?_
    refine XS.ifNo X50.here hx rfl (hb hby at_204) rfl ((if0 _ _).trans (feq (by decide : ¬ ((1 : Int32) = (0 : Int32)))).1) ?_
    refine XS.aload X50.here hx rfl (hb hby at_207) rfl rfl ?_
    show Steps p.tables e below (T50.setTop (mkF m 209 #[.val (.int p0), .val (.int p1), .val (.int p2), .val (.int p3), .val (.int ia), .val (.int ib), .val (.int ic), .val (.double (FP.i2d ia)), .second, .val (.double (FP.i2d ib)), .second, .val (.double (FP.i2d ic)), .second, .val (.double (FP.i2d p3)), .second, .val (.ref b1), .val (.ref b1_14), .val (.double (FP.i2d (ic + (1 : Int32)))), .second, .val (.double (0 : UInt64)), .second, .val (.double (4652007308841189376 : UInt64)), .second, .val (.int (1 : Int32))] [(.ref b1_14)])) _
    refine XS.dload X50.here hx rfl (hb hby at_209) rfl ?_
    refine XS.dload X50.here hx rfl (hb hby at_211) rfl ?_
    refine XS.dload X50.here hx rfl (hb hby at_213) rfl ?_
    refine st51.trans ?_
    show Steps p.tables e below (T51.setTop (mkF m 218 #[.val (.int p0), .val (.int p1), .val (.int p2), .val (.int p3), .val (.int ia), .val (.int ib), .val (.int ic), .val (.double (FP.i2d ia)), .second, .val (.double (FP.i2d ib)), .second, .val (.double (FP.i2d ic)), .second, .val (.double (FP.i2d p3)), .second, .val (.ref b1), .val (.ref b1_14), .val (.double (FP.i2d (ic + (1 : Int32)))), .second, .val (.double (0 : UInt64)), .second, .val (.double (4652007308841189376 : UInt64)), .second, .val (.int (1 : Int32))] [(.double (FP.i2d ic))])) _
    refine XS.dload X51.here hx rfl (hb hby at_218) rfl ?_
    refine XS.dcmpS X51.here hx rfl (hb hby at_220) rfl (v := (0 : Int32)) hd220 ?_
    show Steps p.tables e below (T51.setTop (mkF m 221 #[.val (.int p0), .val (.int p1), .val (.int p2), .val (.int p3), .val (.int ia), .val (.int ib), .val (.int ic), .val (.double (FP.i2d ia)), .second, .val (.double (FP.i2d ib)), .second, .val (.double (FP.i2d ic)), .second, .val (.double (FP.i2d p3)), .second, .val (.ref b1), .val (.ref b1_14), .val (.double (FP.i2d (ic + (1 : Int32)))), .second, .val (.double (0 : UInt64)), .second, .val (.double (4652007308841189376 : UInt64)), .second, .val (.int (1 : Int32))] [(.int (0 : Int32))])) _
    refine XS.ifNo X51.here hx rfl (hb hby at_221) rfl ((if0 _ _).trans (teq (by decide : (0 : Int32) = (0 : Int32))).2) ?_
    refine XS.iconst X51.here hx rfl (hb hby at_224) ?_
    refine XS.goto X51.here hx rfl (pc0 := 225) (pc' := 229) rfl (hb hby at_225) (by decide) (by decide) ?_
    refine XS.istore X51.here hx rfl (hb hby at_229) rfl (l' := #[.val (.int p0), .val (.int p1), .val (.int p2), .val (.int p3), .val (.int ia), .val (.int ib), .val (.int ic), .val (.double (FP.i2d ia)), .second, .val (.double (FP.i2d ib)), .second, .val (.double (FP.i2d ic)), .second, .val (.double (FP.i2d p3)), .second, .val (.ref b1), .val (.ref b1_14), .val (.double (FP.i2d (ic + (1 : Int32)))), .second, .val (.double (0 : UInt64)), .second, .val (.double (4652007308841189376 : UInt64)), .second, .val (.int (1 : Int32))]) rfl ?_
    refine XS.iload X51.here hx rfl (hb hby at_231) rfl ?_
    refine XS.ifNo X51.here hx rfl (hb hby at_233) rfl ((if0 _ _).trans (feq (by decide : ¬ ((1 : Int32) = (0 : Int32)))).1) ?_
    show Steps p.tables e below (T51.setTop (mkF m 236 #[.val (.int p0), .val (.int p1), .val (.int p2), .val (.int p3), .val (.int ia), .val (.int ib), .val (.int ic), .val (.double (FP.i2d ia)), .second, .val (.double (FP.i2d ib)), .second, .val (.double (FP.i2d ic)), .second, .val (.double (FP.i2d p3)), .second, .val (.ref b1), .val (.ref b1_14), .val (.double (FP.i2d (ic + (1 : Int32)))), .second, .val (.double (0 : UInt64)), .second, .val (.double (4652007308841189376 : UInt64)), .second, .val (.int (1 : Int32))] [])) _
    refine XS.aload X51.here hx rfl (hb hby at_236) rfl rfl ?_
    refine XS.dload X51.here hx rfl (hb hby at_238) rfl ?_
    refine XS.dload X51.here hx rfl (hb hby at_240) rfl ?_
    refine XS.dconst0 X51.here hx rfl (hb hby at_242) (v := (0 : UInt64)) rfl ?_
    refine st52.trans ?_
    show Steps p.tables e below (T52.setTop (mkF m 246 #[.val (.int p0), .val (.int p1), .val (.int p2), .val (.int p3), .val (.int ia), .val (.int ib), .val (.int ic), .val (.double (FP.i2d ia)), .second, .val (.double (FP.i2d ib)), .second, .val (.double (FP.i2d ic)), .second, .val (.double (FP.i2d p3)), .second, .val (.ref b1), .val (.ref b1_14), .val (.double (FP.i2d (ic + (1 : Int32)))), .second, .val (.double (0 : UInt64)), .second, .val (.double (4652007308841189376 : UInt64)), .second, .val (.int (1 : Int32))] [(.double (FP.i2d ia))])) _
    refine XS.dload X52.here hx rfl (hb hby at_246) rfl ?_
    show Steps p.tables e below (T52.setTop (mkF m 248 #[.val (.int p0), .val (.int p1), .val (.int p2), .val (.int p3), .val (.int ia), .val (.int ib), .val (.int ic), .val (.double (FP.i2d ia)), .second, .val (.double (FP.i2d ib)), .second, .val (.double (FP.i2d ic)), .second, .val (.double (FP.i2d p3)), .second, .val (.ref b1), .val (.ref b1_14), .val (.double (FP.i2d (ic + (1 : Int32)))), .second, .val (.double (0 : UInt64)), .second, .val (.double (4652007308841189376 : UInt64)), .second, .val (.int (1 : Int32))] [(.double (FP.i2d ia)), (.double (FP.i2d ia))])) _
    refine XS.dcmpS X52.here hx rfl (hb hby at_248) rfl (v := (0 : Int32)) hd248 ?_
    refine XS.ifNo X52.here hx rfl (hb hby at_249) rfl ((if0 _ _).trans (teq (by decide : (0 : Int32) = (0 : Int32))).2) ?_
    refine XS.iconst X52.here hx rfl (hb hby at_252) ?_
    refine XS.goto X52.here hx rfl (pc0 := 253) (pc' := 257) rfl (hb hby at_253) (by decide) (by decide) ?_
    refine XS.istore X52.here hx rfl (hb hby at_257) rfl (l' := #[.val (.int p0), .val (.int p1), .val (.int p2), .val (.int p3), .val (.int ia), .val (.int ib), .val (.int ic), .val (.double (FP.i2d ia)), .second, .val (.double (FP.i2d ib)), .second, .val (.double (FP.i2d ic)), .second, .val (.double (FP.i2d p3)), .second, .val (.ref b1), .val (.ref b1_14), .val (.double (FP.i2d (ic + (1 : Int32)))), .second, .val (.double (0 : UInt64)), .second, .val (.double (4652007308841189376 : UInt64)), .second, .val (.int (1 : Int32))]) rfl ?_
    refine XS.iload X52.here hx rfl (hb hby at_259) rfl ?_
    show Steps p.tables e below (T52.setTop (mkF m 261 #[.val (.int p0), .val (.int p1), .val (.int p2), .val (.int p3), .val (.int ia), .val (.int ib), .val (.int ic), .val (.double (FP.i2d ia)), .second, .val (.double (FP.i2d ib)), .second, .val (.double (FP.i2d ic)), .second, .val (.double (FP.i2d p3)), .second, .val (.ref b1), .val (.ref b1_14), .val (.double (FP.i2d (ic + (1 : Int32)))), .second, .val (.double (0 : UInt64)), .second, .val (.double (4652007308841189376 : UInt64)), .second, .val (.int (1 : Int32))] [(.int (1 : Int32))])) _
    refine XS.ifNo X52.here hx rfl (hb hby at_261) rfl ((if0 _ _).trans (feq (by decide : ¬ ((1 : Int32) = (0 : Int32)))).1) ?_
    refine XS.aload X52.here hx rfl (hb hby at_264) rfl rfl ?_
    refine XS.dload X52.here hx rfl (hb hby at_266) rfl ?_
    refine XS.dload X52.here hx rfl (hb hby at_268) rfl ?_
    refine X52.ldc2DoubleC hx hown (mvT hZ (hw _ (List.mem_of_getElem? (i := 78) rfl))) (g := (mkF m 270 #[.val (.int p0), .val (.int p1), .val (.int p2), .val (.int p3), .val (.int ia), .val (.int ib), .val (.int ic), .val (.double (FP.i2d ia)), .second, .val (.double (FP.i2d ib)), .second, .val (.double (FP.i2d ic)), .second, .val (.double (FP.i2d p3)), .second, .val (.ref b1), .val (.ref b1_14), .val (.double (FP.i2d (ic + (1 : Int32)))), .second, .val (.double (0 : UInt64)), .second, .val (.double (4652007308841189376 : UInt64)), .second, .val (.int (1 : Int32))] [(.double (4652007308841189376 : UInt64)), (.double (0 : UInt64)), (.ref b1_14)])) rfl (hb hby at_270) _ ?_
    show Steps p.tables e below (T52.setTop (mkF m 273 #[.val (.int p0), .val (.int p1), .val (.int p2), .val (.int p3), .val (.int ia), .val (.int ib), .val (.int ic), .val (.double (FP.i2d ia)), .second, .val (.double (FP.i2d ib)), .second, .val (.double (FP.i2d ic)), .second, .val (.double (FP.i2d p3)), .second, .val (.ref b1), .val (.ref b1_14), .val (.double (FP.i2d (ic + (1 : Int32)))), .second, .val (.double (0 : UInt64)), .second, .val (.double (4652007308841189376 : UInt64)), .second, .val (.int (1 : Int32))] [(.double (4656510908468559872 : UInt64)), (.double (4652007308841189376 : UInt64)), (.double (0 : UInt64)), (.ref b1_14)])) _
    refine st53.trans ?_
    show Steps p.tables e below (T53.setTop (mkF m 276 #[.val (.int p0), .val (.int p1), .val (.int p2), .val (.int p3), .val (.int ia), .val (.int ib), .val (.int ic), .val (.double (FP.i2d ia)), .second, .val (.double (FP.i2d ib)), .second, .val (.double (FP.i2d ic)), .second, .val (.double (FP.i2d p3)), .second, .val (.ref b1), .val (.ref b1_14), .val (.double (FP.i2d (ic + (1 : Int32)))), .second, .val (.double (0 : UInt64)), .second, .val (.double (4652007308841189376 : UInt64)), .second, .val (.int (1 : Int32))] [(.double (FP.i2d ic))])) _
    refine XS.dload X53.here hx rfl (hb hby at_276) rfl ?_
    refine XS.dcmpS X53.here hx rfl (hb hby at_278) rfl (v := (0 : Int32)) hd278 ?_
    refine XS.ifNo X53.here hx rfl (hb hby at_279) rfl ((if0 _ _).trans (teq (by decide : (0 : Int32) = (0 : Int32))).2) ?_
    refine XS.iconst X53.here hx rfl (hb hby at_282) ?_
    refine XS.goto X53.here hx rfl (pc0 := 283) (pc' := 287) rfl (hb hby at_283) (by decide) (by decide) ?_
    refine XS.istore X53.here hx rfl (hb hby at_287) rfl (l' := #[.val (.int p0), .val (.int p1), .val (.int p2), .val (.int p3), .val (.int ia), .val (.int ib), .val (.int ic), .val (.double (FP.i2d ia)), .second, .val (.double (FP.i2d ib)), .second, .val (.double (FP.i2d ic)), .second, .val (.double (FP.i2d p3)), .second, .val (.ref b1), .val (.ref b1_14), .val (.double (FP.i2d (ic + (1 : Int32)))), .second, .val (.double (0 : UInt64)), .second, .val (.double (4652007308841189376 : UInt64)), .second, .val (.int (1 : Int32))]) rfl ?_
    show Steps p.tables e below (T53.setTop (mkF m 289 #[.val (.int p0), .val (.int p1), .val (.int p2), .val (.int p3), .val (.int ia), .val (.int ib), .val (.int ic), .val (.double (FP.i2d ia)), .second, .val (.double (FP.i2d ib)), .second, .val (.double (FP.i2d ic)), .second, .val (.double (FP.i2d p3)), .second, .val (.ref b1), .val (.ref b1_14), .val (.double (FP.i2d (ic + (1 : Int32)))), .second, .val (.double (0 : UInt64)), .second, .val (.double (4652007308841189376 : UInt64)), .second, .val (.int (1 : Int32))] [])) _
    refine XS.iload X53.here hx rfl (hb hby at_289) rfl ?_
    exact retN X53 hx (t := .boolean) Bd.returns (by simp) (hb hby at_291) hr
  · show Q0 n0 _ T53.heap _
    rw [e53]
    exact ⟨rfl, N53⟩
open Jvm.OwnFP in
theorem own_q {i j : Int} {x y : UInt64} (hx : Ra i 1 x) (hy : Ra j 1 y) (hj : 1 ≤ j) (h : j ≤ i) (hi : i ≤ 1000000) : Jvm.Free.Fl.NoNaN64 (FP.ddiv x y) ∧ ¬ ((0 : Int32) < (cmpValue (FP.dcmp (FP.ddiv x x) (FP.ddiv x y)) .l)) := by
  have one : Ra 1 1 (FP.ddiv x x) := (hx.div hx (r := 1) (F := 1) (k := 0) (by decide) (by decide) (by omega) (by decide) rfl (by decide) (by simp))
  have px := zv_lt ra_zero hx (by decide) (by omega : (0 : Int) < i)
  have py := zv_lt ra_zero hy (by decide) (by omega : (0 : Int) < j)
  rw [show zv 0 = 0 from Jvm.FP.Core.zval64_zero] at px py
  have nq : Jvm.Free.Fl.NoNaN64 (FP.ddiv x y) := ((Jvm.RoadKit.ddiv_mag (hx.mag (n := 20) (by decide) (by omega)) (hy.big (by omega)) (by decide) (by decide)).fin (by decide)).noNaN
  have z1 : zv (FP.ddiv x x) = zv (4607182418800017408 : UInt64) := zv_eq one ra_one (by decide) rfl
  have one1 : zv (4607182418800017408 : UInt64) = (Jvm.FP.Core.one64 : Int) := by have := ra_one.2; rw [Int.natCast_one, Int.mul_one, Int.one_mul] at this; exact this
  have hge : zv (4607182418800017408 : UInt64) ≤ zv (FP.ddiv x y) := div_ge hx.1 hy.1 px py (by rw [one1]; exact Int.le_of_lt oz) (by
    rw [one1, Int.mul_comm]; exact Int.mul_le_mul_of_nonneg_right (zv_le hy hx (by decide) h) (Int.le_of_lt oz))
  exact ⟨nq, cv_le one.ne_nan (nan_of nq) (by rw [z1]; exact hge) _⟩
theorem own_msk (p : Int32) : 0 ≤ (p &&& (255 : Int32)).toInt ∧ (p &&& (255 : Int32)).toInt ≤ 255 := by
  have a := c_and p (255 : Int32) (by decide)
  have d : (255 : Int32).toInt = 255 := by decide
  rw [d] at a; omega
theorem own_nx (a q : Int32) (h0 : 0 ≤ a.toInt) (h1 : a.toInt ≤ 1000) : (a + (1 : Int32) + (q &&& (255 : Int32))).toInt = a.toInt + 1 + (q &&& (255 : Int32)).toInt := by
  have m := own_msk q; have x := c_iadd (a + (1 : Int32)) (q &&& (255 : Int32)); have y := c_iadd a (1 : Int32)
  have r := rng32 (a + (1 : Int32) + (q &&& (255 : Int32))); have r2 := rng32 (a + (1 : Int32)); rw [show (1 : Int32).toInt = 1 by decide] at y; omega
theorem own_law (l : Launch) (Z : State) (a0 : Array Value) (hw : ∀ d ∈ tables_1, d.before a0 Z = true) (ws : List Jvm.Cond) (p0 : Int32) (p1 : Int32) (p2 : Int32) (p3 : Int32) (h0 : Heap) (n0 : Nat) (Z0 : n0 ≤ h0.size) :
    MetFree l x (head1 (Jvm.Cond.code x code maxLocals ret :: ws) room_1) (fun a U => a = #[(.int p0), (.int p1), (.int p2), (.int p3)] ∧ Z.Warmed39 U.vm ∧ U.heap = h0) (fun _ _ _ _ _ => True) (fun _ U o U' => ∃ v L, o = .returned v ∧ Q0 n0 v U'.heap L ∧ FrameEnd U o U' L room_1.cells room_1.slots) := by
  obtain ⟨ia, ehv6⟩ : ∃ z, ((1 : Int32) + (p0 &&& (255 : Int32))) = z := ⟨_, rfl⟩
  obtain ⟨ib, ehv18⟩ : ∃ z, ((ia + (1 : Int32)) + (p1 &&& (255 : Int32))) = z := ⟨_, rfl⟩
  obtain ⟨ic, ehv30⟩ : ∃ z, ((ib + (1 : Int32)) + (p2 &&& (255 : Int32))) = z := ⟨_, rfl⟩
  have m0 := own_msk p0; have m1 := own_msk p1; have m2 := own_msk p2
  have ea : ia.toInt = 1 + (p0 &&& (255 : Int32)).toInt := by
    have x := c_iadd (1 : Int32) (p0 &&& (255 : Int32)); rw [ehv6, show (1 : Int32).toInt = 1 by decide] at x; have r := rng32 ia; omega
  have eb : ib.toInt = ia.toInt + 1 + (p1 &&& (255 : Int32)).toInt := ehv18 ▸ own_nx ia p1 (by omega) (by omega)
  have ec : ic.toInt = ib.toInt + 1 + (p2 &&& (255 : Int32)).toInt := ehv30 ▸ own_nx ib p2 (by omega) (by omega)
  have ra := Jvm.OwnFP.Ra.i2d ia; have rb := Jvm.OwnFP.Ra.i2d ib; have rc := Jvm.OwnFP.Ra.i2d ic; have rq := Jvm.OwnFP.Ra.i2d p3; have rz := Jvm.OwnFP.ra_zero
  have rk : Jvm.OwnFP.Ra 1000 1 (4652007308841189376 : UInt64) := Jvm.OwnFP.Ra.lit (s := false) (c := 8796093022208000) (q := -43) (k := 0) (n := 43) (by decide +kernel) rfl (by decide) (by decide) (by decide)
  have rt : Jvm.OwnFP.Ra 2000 1 (4656510908468559872 : UInt64) := Jvm.OwnFP.Ra.lit (s := false) (c := 8796093022208000) (q := -42) (k := 0) (n := 42) (by decide +kernel) rfl (by decide) (by decide) (by decide)
  obtain ⟨u0, eu0⟩ : ∃ z, (FP.i2d ia) = z := ⟨_, rfl⟩
  obtain ⟨u1, eu1⟩ : ∃ z, (FP.i2d ib) = z := ⟨_, rfl⟩
  obtain ⟨u2, eu2⟩ : ∃ z, (FP.i2d ic) = z := ⟨_, rfl⟩
  obtain ⟨u3, eu3⟩ : ∃ z, (FP.i2d ia) = z := ⟨_, rfl⟩
  obtain ⟨u4, eu4⟩ : ∃ z, (4656510908468559872 : UInt64) = z := ⟨_, rfl⟩
  exact rm0 l Z a0 hw ws p0 p1 p2 p3 u0 u1 u2 u3 u4 ia ib ic h0 n0 Z0 (hv6 := ehv6) (hv18 := ehv18) (hv30 := ehv30) (hd133 := rq.eq rq (by decide) rfl .l) (hmin_19_157 := (by rw [← eu0]; exact Jvm.OwnFP.pick_lt ra rc (by decide) (by omega) false)) (hd33_5_5_2_19_157 := rb.gt rz (by decide) (by omega) .g) (hd49_5_5_2_19_157 := rb.gt rz (by decide) (by omega) .l) (hd33_1_5_5_2_19_157 := ra.gt rz (by decide) (by omega) .g) (hd49_1_5_5_2_19_157 := ra.gt rz (by decide) (by omega) .l) (hd33_5_5_9_19_157 := rb.lt rk (by decide) (by omega) .g) (hd33_1_5_5_9_19_157 := rc.lt rk (by decide) (by omega) .g) (nna36_19_157 := ra.nn) (nnb36_19_157 := ra.nn) (hq36_19_157 := (Jvm.OwnFP.pick_self _ _).trans eu0) (nna46_19_157 := (eu0 ▸ ra.nn)) (nnb46_19_157 := rc.nn) (hd33_5_5_54_19_157 := rb.gt ra (by decide) (by omega) .g) (hd49_5_5_54_19_157 := rb.gt ra (by decide) (by omega) .l) (hd33_1_5_5_54_19_157 := ra.eq ra (by decide) rfl .g) (hd49_1_5_5_54_19_157 := ra.eq ra (by decide) rfl .l) (hd2_1_64_5_5_54_19_157 := ra.eq ra (by decide) rfl .l) (hd2_1_70_5_5_54_19_157 := ra.eq ra (by decide) rfl .l) (hd162 := ra.eq ra (by decide) rfl .l) (hmin_19_186 := (by rw [← eu1]; exact Jvm.OwnFP.pick_lt rb rc (by decide) (by omega) false)) (hd33_5_5_2_19_186 := rb.gt rz (by decide) (by omega) .g) (hd49_5_5_2_19_186 := rb.gt rz (by decide) (by omega) .l) (hd33_1_5_5_2_19_186 := ra.gt rz (by decide) (by omega) .g) (hd49_1_5_5_2_19_186 := ra.gt rz (by decide) (by omega) .l) (hd33_5_5_9_19_186 := rb.lt rk (by decide) (by omega) .g) (hd33_1_5_5_9_19_186 := rc.lt rk (by decide) (by omega) .g) (nna36_19_186 := rb.nn) (nnb36_19_186 := ra.nn) (hq36_19_186 := (Jvm.OwnFP.pick_gt rb ra (by decide) (by omega) true).trans eu1) (nna46_19_186 := (eu1 ▸ rb.nn)) (nnb46_19_186 := rc.nn) (hd33_5_5_54_19_186 := rb.eq rb (by decide) rfl .g) (hd49_5_5_54_19_186 := rb.eq rb (by decide) rfl .l) (hd2_1_64_5_5_54_19_186 := rb.eq rb (by decide) rfl .l) (hd2_1_70_5_5_54_19_186 := rb.eq rb (by decide) rfl .l) (nn75_19_186 := (own_q rb rb (by omega) (by omega) (by omega)).1) (nn87_19_186 := (own_q rb ra (by omega) (by omega) (by omega)).1) (hc89_19_186 := (own_q rb ra (by omega) (by omega) (by omega)).2) (hd191 := rb.eq rb (by decide) rfl .l) (hmin_19_215 := (by rw [← eu2]; exact Jvm.OwnFP.pick_self _ _)) (hd33_5_5_2_19_215 := rb.gt rz (by decide) (by omega) .g) (hd49_5_5_2_19_215 := rb.gt rz (by decide) (by omega) .l) (hd33_1_5_5_2_19_215 := ra.gt rz (by decide) (by omega) .g) (hd49_1_5_5_2_19_215 := ra.gt rz (by decide) (by omega) .l) (hd33_5_5_9_19_215 := rb.lt rk (by decide) (by omega) .g) (hd33_1_5_5_9_19_215 := rc.lt rk (by decide) (by omega) .g) (nna36_19_215 := rc.nn) (nnb36_19_215 := ra.nn) (hq36_19_215 := (Jvm.OwnFP.pick_gt rc ra (by decide) (by omega) true).trans eu2) (nna46_19_215 := (eu2 ▸ rc.nn)) (nnb46_19_215 := rc.nn) (hd33_5_5_54_19_215 := rb.lt rc (by decide) (by omega) .g) (hd33_1_5_5_54_19_215 := rc.eq rc (by decide) rfl .g) (hd49_5_5_54_19_215 := rc.eq rc (by decide) rfl .l) (hd2_1_64_5_5_54_19_215 := rc.eq rc (by decide) rfl .l) (hd2_1_70_5_5_54_19_215 := rc.eq rc (by decide) rfl .l) (nn75_19_215 := (own_q rc rc (by omega) (by omega) (by omega)).1) (nn87_19_215 := (own_q rc rb (by omega) (by omega) (by omega)).1) (hc89_19_215 := (own_q rc rb (by omega) (by omega) (by omega)).2) (hd220 := rc.eq rc (by decide) rfl .l) (hmin_19_243 := (by rw [← eu3]; exact Jvm.OwnFP.pick_lt ra rc (by decide) (by omega) false)) (hd33_5_5_2_19_243 := rb.gt rz (by decide) (by omega) .g) (hd49_5_5_2_19_243 := rb.gt rz (by decide) (by omega) .l) (hd33_1_5_5_2_19_243 := ra.gt rz (by decide) (by omega) .g) (hd49_1_5_5_2_19_243 := ra.gt rz (by decide) (by omega) .l) (hd33_5_5_9_19_243 := rb.lt rk (by decide) (by omega) .g) (hd33_1_5_5_9_19_243 := rc.lt rk (by decide) (by omega) .g) (nna36_19_243 := rz.nn) (nnb36_19_243 := ra.nn) (hq36_19_243 := (Jvm.OwnFP.pick_lt rz ra (by decide) (by omega) true).trans eu3) (nna46_19_243 := (eu3 ▸ ra.nn)) (nnb46_19_243 := rc.nn) (hd33_5_5_54_19_243 := rb.gt ra (by decide) (by omega) .g) (hd49_5_5_54_19_243 := rb.gt ra (by decide) (by omega) .l) (hd33_1_5_5_54_19_243 := ra.eq ra (by decide) rfl .g) (hd49_1_5_5_54_19_243 := ra.eq ra (by decide) rfl .l) (hd2_1_64_5_5_54_19_243 := ra.eq ra (by decide) rfl .l) (hd2_1_70_5_5_54_19_243 := ra.eq ra (by decide) rfl .l) (hd248 := ra.eq ra (by decide) rfl .l) (hmin_19_273 := (by rw [← eu4]; exact Jvm.OwnFP.pick_gt rt rc (by decide) (by omega) false)) (hd33_5_5_2_19_273 := rb.gt rz (by decide) (by omega) .g) (hd49_5_5_2_19_273 := rb.gt rz (by decide) (by omega) .l) (hd33_1_5_5_2_19_273 := ra.gt rz (by decide) (by omega) .g) (hd49_1_5_5_2_19_273 := ra.gt rz (by decide) (by omega) .l) (hd33_5_5_9_19_273 := rb.lt rk (by decide) (by omega) .g) (hd33_1_5_5_9_19_273 := rc.lt rk (by decide) (by omega) .g) (nna36_19_273 := rt.nn) (nnb36_19_273 := ra.nn) (hq36_19_273 := (Jvm.OwnFP.pick_gt rt ra (by decide) (by omega) true).trans eu4) (nna46_19_273 := (eu4 ▸ rt.nn)) (nnb46_19_273 := rc.nn) (hd33_5_5_54_19_273 := rb.lt rc (by decide) (by omega) .g) (hd33_1_5_5_54_19_273 := rc.eq rc (by decide) rfl .g) (hd49_5_5_54_19_273 := rc.eq rc (by decide) rfl .l) (hd2_1_64_5_5_54_19_273 := rc.eq rc (by decide) rfl .l) (hd2_1_70_5_5_54_19_273 := rc.eq rc (by decide) rfl .l) (nn75_19_273 := (own_q rc rc (by omega) (by omega) (by omega)).1) (nn87_19_273 := (own_q rc rb (by omega) (by omega) (by omega)).1) (hc89_19_273 := (own_q rc rb (by omega) (by omega) (by omega)).2) (hd278 := rc.eq rc (by decide) rfl .l)
set_option maxRecDepth 65536 in
set_option maxHeartbeats 40000000 in
theorem comes_1 {Post : Tables → Env → Array Value → State → Outcome → State → Prop} (hpost : ∀ tb e args s v u, (limb_1_1.after args s (.returned v) u = true ∧ limb_1_2.after args s (.returned v) u = true ∧ True) → FrameEnd s (.returned v) u (Jvm.fieldLocs frame_1_writes args s ++ Jvm.arrayLocs frame_1_arrays args s ++ Jvm.staticLocs frame_1_statics s) 16 128 → Post tb e args s (.returned v) u) :
    ArmFor flags0 classFile x code maxLocals ret World_1 tables_1 room_1 Calls_1 rest_1 Pre_1 Post := by
  intro l hfl _ _ p e ha hc hk s m args below hf hA hF happ hP
  obtain ⟨hcalls, hrest, hpre⟩ := hP
  obtain ⟨-, -, -, hnamed, -, -, -, hat⟩ := (Spec.applies_iff hf).mp happ
  obtain ⟨hg, hn⟩ := and_e (Cond.before_iff.mp (show (Jvm.Cond.and given_1 narrow_1).before args s = true from hpre))
  obtain ⟨g1, g2⟩ := and_e hg
  obtain ⟨g3, g4⟩ := and_e g2
  obtain ⟨g5, g6⟩ := and_e g4
  obtain ⟨g7, g8⟩ := and_e g6
  obtain ⟨w0, w1, w2, w3, rfl⟩ : ∃ w0 w1 w2 w3 : Value, args = #[w0, w1, w2, w3] := by
    have hs : args.size = 4 := by simpa [Cond.value, given_1] using g1
    obtain ⟨L⟩ := args
    match L, hs with
    | [w0, w1, w2, w3], _ => exact ⟨w0, w1, w2, w3, rfl⟩
  have hw := fun d (hd : d ∈ tables_1) => atoms_spec (ws := Jvm.Cond.code x code maxLocals ret :: tables_1) hat d (List.mem_cons_of_mem _ hd)
  have hfit : Fit s := fun {y c} hc i hi => by
    obtain ⟨ha, rfl⟩ := Array.getElem?_eq_some_iff.mp hc
    have q := List.all_eq_true.mp ((Array.all_eq_true_iff_forall_mem.mp hF) _ (Array.getElem_mem ha)) i (List.mem_range.mpr hi)
    simpa [Array.getElem?_eq_getElem hi] using q
  obtain ⟨i0, ei0⟩ := is_v g3
  obtain rfl : w0 = (.int i0) := Option.some.inj ei0
  obtain ⟨i1, ei1⟩ := is_v g5
  obtain rfl : w1 = (.int i1) := Option.some.inj ei1
  obtain ⟨i2, ei2⟩ := is_v g7
  obtain rfl : w2 = (.int i2) := Option.some.inj ei2
  obtain ⟨i3, ei3⟩ := is_v g8
  obtain rfl : w3 = (.int i3) := Option.some.inj ei3
  obtain ⟨n, o, h1, h2, h3, _, L, rfl, ⟨rfl, N⟩, hq⟩ := own_law l s _ hw tables_1 i0 i1 i2 i3 s.heap s.heap.size (Nat.le_refl _)  p e ha hc hk s m _ below hf ((Spec.applies_iff_loose hf).mp happ).1 ⟨rfl, State.Warmed39.refl s, rfl⟩ trivial
  refine ⟨n, _, h1, h2, h3, hpost _ _ _ _ _ _ ⟨Cond.after_iff.mpr rfl, Cond.after_iff.mpr (eq_i res_at (Term.int_eval (1)) rfl), trivial⟩ ⟨hq.1, hq.2.1, (hq.2.2.sift fun y hy => Or.inr (N y hy)).mono (by decide) (by decide)⟩⟩
theorem main_1_1 : Claimed_1_1 := comes_1 fun _ _ _ _ _ _ h hF => ⟨h.1, hF⟩
theorem main_1_2 : Claimed_1_2 := comes_1 fun _ _ _ _ _ _ h hF => ⟨h.2.1, hF⟩
end Jvm.Pilot.@@N@@
namespace Jvm.Pilot.@@N@@
open Jvm Jvm.ClassFile Sem Op Lib Jvm.Free Jvm.Stand Jvm.Pilot.@@N@@.Jvm.D
/-! MADE BY PROGRAM (witnessworld.py) out of the Statement's table words and the real class files: 18 classes; the members and pool entries that the words name. The judged class is class 1, her method 1. -/
namespace start1
open Jvm.ClassFile
def u (s : String) : CpInfo := .utf8 (stringToUtf16 s)
/-- a pool by its gaps: so many unusable entries, then the entry; so many at the end -/
def gap : Nat → List CpInfo → List CpInfo
  | 0, r => r
  | n + 1, r => .unusable :: gap n r
def poolList (es : List (Nat × CpInfo)) (last : Nat) : List CpInfo := es.foldr (fun e r => gap e.1 (e.2 :: r)) (gap last [])
def pool (es : List (Nat × CpInfo)) (last : Nat) : Array CpInfo := ⟨poolList es last⟩
def fileOf (pool : Array CpInfo) (this : Nat) (attrs : Array Attribute := #[]) (ms : Array MethodInfo := #[]) (fl : Nat := 33) (sup : Nat := 0) (ifs : Array Nat := #[]) (fds : Array FieldInfo := #[]) : ClassFile where
  minorVersion := 0
  majorVersion := 65
  constantPool := pool
  accessFlags := fl
  thisClass := this
  superClass := sup
  interfaces := ifs
  fields := fds
  methods := ms
  attributes := attrs
def plain (name : String) (sup : Option ClassId) : Class where
  name := name
  kind := .ordinary
  loader := none
  accessFlags := 33
  super := sup
  interfaces := #[]
  cf := none
  fields := #[]
  methods := #[]
  instanceTypes := #[]
  staticTypes := #[]
  resolved := #[]
  callSites := []
  init := .initialized
  statics := none
  mirror := none

def pool0 : Array CpInfo := pool [(5, u "<init>"), (0, u "()V"), (1, .class_ 10), (1, u "java/lang/Object"), (85, u "clone"), (0, u "()Ljava/lang/Object;")] 26

def k0c0 : Code := { maxStack := 0, maxLocals := 1, code := object_method_1_code, exceptionTable := #[], attributes := #[] }
def k0m0 : Method := { name := "<init>", desc := "()V", sig := { parameters := [], returnType := none }, accessFlags := 1, code := some k0c0 }
def k0m1 : Method := { name := "clone", desc := "()Ljava/lang/Object;", sig := { parameters := [], returnType := some (.object "java/lang/Object") }, accessFlags := 260, code := none }
/-- java/lang/Object -/
def k0 : Class := { plain "java/lang/Object" none with
  accessFlags := 33
  interfaces := #[]
  cf := some (fileOf pool0 8 #[] #[{ accessFlags := 1, nameIndex := 5, descriptorIndex := 6, attributes := #[] }, { accessFlags := 260, nameIndex := 96, descriptorIndex := 97, attributes := #[] }] 33 0 #[] #[])
  fields := #[]
  methods := #[k0m0, k0m1]
  instanceTypes := #[]
  staticTypes := #[]
  resolved := Array.replicate 124 none
  statics := none }

def pool1 : Array CpInfo := pool [(2, .class_ 4), (1, u "java/lang/Object"), (0, u "<init>"), (0, u "()V"), (0, .methodref 8 9), (0, .class_ 10), (0, .nameAndType 11 12), (0, u "com/example/hedgeway/hedgeway/routing/Lambdas"), (0, u "grid"), (0, u "([DD)Lcom/example/hedgeway/hedgeway/routing/Lambdas;"), (0, .double 4652007308841189376), (1, .methodref 8 16), (0, .nameAndType 17 18), (0, u "isGrid"), (0, u "()Z"), (0, .methodref 8 20), (0, .nameAndType 21 22), (0, u "errorBound"), (0, u "()D"), (0, .methodref 8 24), (0, .nameAndType 25 26), (0, u "between"), (0, u "(DDD)D"), (0, .double 4656510908468559872), (1, .class_ 30), (0, u "com/example/hedgeway/hedgeway/routing/LambdasGridPinLaw"), (2, u "law"), (0, u "(IIII)Z")] 5

def k1m0 : Method := { name := "<init>", desc := "()V", sig := { parameters := [], returnType := none }, accessFlags := 1, code := none }
def k1c1 : Code := { maxStack := 7, maxLocals := 24, code := code, exceptionTable := #[], attributes := #[] }
def k1m1 : Method := { name := "law", desc := "(IIII)Z", sig := { parameters := [.int, .int, .int, .int], returnType := some .boolean }, accessFlags := 9, code := some k1c1 }
/-- com/example/hedgeway/hedgeway/routing/LambdasGridPinLaw -/
def k1 : Class := { plain "com/example/hedgeway/hedgeway/routing/LambdasGridPinLaw" (some 0) with
  accessFlags := 49
  interfaces := #[]
  cf := some (fileOf pool1 29 #[] #[{ accessFlags := 1, nameIndex := 5, descriptorIndex := 6, attributes := #[] }, { accessFlags := 9, nameIndex := 33, descriptorIndex := 34, attributes := #[] }] 49 2 #[] #[])
  fields := #[]
  methods := #[k1m0, k1m1]
  instanceTypes := #[]
  staticTypes := #[]
  resolved := Array.replicate 40 none
  statics := none }

def pool2 : Array CpInfo := pool [(1, .methodref 2 3), (0, .class_ 4), (0, .nameAndType 5 6), (0, u "java/lang/Object"), (0, u "<init>"), (0, u "()V"), (0, .fieldref 8 9), (0, .class_ 10), (0, .nameAndType 11 12), (0, u "com/example/hedgeway/hedgeway/routing/Lambdas"), (0, u "grid"), (0, u "[D"), (0, .fieldref 8 14), (0, .nameAndType 15 16), (0, u "errorBound"), (0, u "D"), (0, .methodref 18 19), (0, .class_ 12), (0, .nameAndType 20 21), (0, u "clone"), (0, u "()Ljava/lang/Object;"), (0, .methodref 8 23), (0, .nameAndType 5 24), (0, u "([DD)V"), (0, .methodref 8 26), (0, .nameAndType 27 28), (0, u "nearestBetween"), (0, u "(DDD)D"), (0, .methodref 8 30), (0, .nameAndType 31 32), (0, u "firstAbove"), (0, u "(D)I"), (0, .methodref 8 34), (0, .nameAndType 35 32), (0, u "firstAtLeast"), (2, .double 9221120237041090560), (1, .methodref 41 42), (0, .class_ 43), (0, .nameAndType 44 45), (0, u "java/lang/Math"), (0, u "max"), (0, u "(DD)D"), (0, .methodref 41 47), (0, .nameAndType 48 45), (0, u "min"), (0, .methodref 50 51), (0, .class_ 52), (0, .nameAndType 53 54), (0, u "java/util/Arrays"), (0, u "binarySearch"), (0, u "([DD)I"), (2, u "EVERY"), (0, u "Lcom/example/hedgeway/hedgeway/routing/Lambdas;"), (2, u "([DD)Lcom/example/hedgeway/hedgeway/routing/Lambdas;"), (0, u "isGrid"), (0, u "()Z"), (1, u "()D"), (0, u "between")] 3

def k2c0 : Code := { maxStack := 3, maxLocals := 4, code := prog_29_method_1_code, exceptionTable := #[], attributes := #[] }
def k2m0 : Method := { name := "<init>", desc := "([DD)V", sig := { parameters := [(.array .double), .double], returnType := none }, accessFlags := 2, code := some k2c0 }
def k2c1 : Code := { maxStack := 5, maxLocals := 3, code := prog_29_method_2_code, exceptionTable := #[], attributes := #[] }
def k2m1 : Method := { name := "grid", desc := "([DD)Lcom/example/hedgeway/hedgeway/routing/Lambdas;", sig := { parameters := [(.array .double), .double], returnType := some (.object "com/example/hedgeway/hedgeway/routing/Lambdas") }, accessFlags := 8, code := some k2c1 }
def k2c2 : Code := { maxStack := 1, maxLocals := 1, code := prog_29_method_3_code, exceptionTable := #[], attributes := #[] }
def k2m2 : Method := { name := "isGrid", desc := "()Z", sig := { parameters := [], returnType := some .boolean }, accessFlags := 0, code := some k2c2 }
def k2c3 : Code := { maxStack := 2, maxLocals := 1, code := prog_29_method_4_code, exceptionTable := #[], attributes := #[] }
def k2m3 : Method := { name := "errorBound", desc := "()D", sig := { parameters := [], returnType := some .double }, accessFlags := 0, code := some k2c3 }
def k2c4 : Code := { maxStack := 7, maxLocals := 9, code := prog_29_method_5_code, exceptionTable := #[], attributes := #[] }
def k2m4 : Method := { name := "between", desc := "(DDD)D", sig := { parameters := [.double, .double, .double], returnType := some .double }, accessFlags := 0, code := some k2c4 }
def k2c5 : Code := { maxStack := 7, maxLocals := 12, code := prog_29_method_6_code, exceptionTable := #[], attributes := #[] }
def k2m5 : Method := { name := "nearestBetween", desc := "(DDD)D", sig := { parameters := [.double, .double, .double], returnType := some .double }, accessFlags := 2, code := some k2c5 }
def k2c6 : Code := { maxStack := 3, maxLocals := 4, code := prog_29_method_7_code, exceptionTable := #[], attributes := #[] }
def k2m6 : Method := { name := "firstAbove", desc := "(D)I", sig := { parameters := [.double], returnType := some .int }, accessFlags := 2, code := some k2c6 }
def k2c7 : Code := { maxStack := 3, maxLocals := 4, code := prog_29_method_8_code, exceptionTable := #[], attributes := #[] }
def k2m7 : Method := { name := "firstAtLeast", desc := "(D)I", sig := { parameters := [.double], returnType := some .int }, accessFlags := 2, code := some k2c7 }
/-- com/example/hedgeway/hedgeway/routing/Lambdas -/
def k2 : Class := { plain "com/example/hedgeway/hedgeway/routing/Lambdas" (some 0) with
  accessFlags := 32
  interfaces := #[]
  cf := some (fileOf pool2 8 #[] #[{ accessFlags := 2, nameIndex := 5, descriptorIndex := 24, attributes := #[] }, { accessFlags := 8, nameIndex := 11, descriptorIndex := 61, attributes := #[] }, { accessFlags := 0, nameIndex := 62, descriptorIndex := 63, attributes := #[] }, { accessFlags := 0, nameIndex := 15, descriptorIndex := 65, attributes := #[] }, { accessFlags := 0, nameIndex := 66, descriptorIndex := 28, attributes := #[] }, { accessFlags := 2, nameIndex := 27, descriptorIndex := 28, attributes := #[] }, { accessFlags := 2, nameIndex := 31, descriptorIndex := 32, attributes := #[] }, { accessFlags := 2, nameIndex := 35, descriptorIndex := 32, attributes := #[] }] 32 2 #[] #[{ accessFlags := 24, nameIndex := 57, descriptorIndex := 58, attributes := #[] }, { accessFlags := 18, nameIndex := 11, descriptorIndex := 12, attributes := #[] }, { accessFlags := 18, nameIndex := 15, descriptorIndex := 16, attributes := #[] }])
  fields := #[{ name := "EVERY", type := (.object "com/example/hedgeway/hedgeway/routing/Lambdas"), accessFlags := 24, slot := 0, constantValue := 0 }, { name := "grid", type := (.array .double), accessFlags := 18, slot := 0, constantValue := 0 }, { name := "errorBound", type := .double, accessFlags := 18, slot := 1, constantValue := 0 }]
  methods := #[k2m0, k2m1, k2m2, k2m3, k2m4, k2m5, k2m6, k2m7]
  instanceTypes := #[(.array .double), .double]
  staticTypes := #[(.object "com/example/hedgeway/hedgeway/routing/Lambdas")]
  resolved := Array.replicate 70 none
  statics := none }

def pool3 : Array CpInfo := pool [(1, .class_ 2), (0, u "java/lang/Cloneable"), (0, .class_ 4), (0, u "java/lang/Object")] 2

/-- java/lang/Cloneable -/
def k3 : Class := { plain "java/lang/Cloneable" (some 0) with
  accessFlags := 1537
  interfaces := #[]
  cf := some (fileOf pool3 1 #[] #[] 1537 3 #[] #[])
  fields := #[]
  methods := #[]
  instanceTypes := #[]
  staticTypes := #[]
  resolved := Array.replicate 7 none
  statics := none }

def pool4 : Array CpInfo := pool [(2, .class_ 4), (1, u "java/lang/Object"), (0, u "<init>"), (0, u "()V"), (7, .class_ 16), (1, u "java/util/Arrays"), (57, .class_ 76), (1, u "java/util/Arrays$NaturalOrder"), (36, .class_ 115), (1, u "java/util/Arrays$LegacyMergeSort"), (1, u "Z"), (89, u "binarySearch0"), (13, .methodref 14 222), (0, .nameAndType 207 223), (0, u "([DIID)I"), (0, .methodref 225 226), (0, .class_ 227), (0, .nameAndType 228 229), (0, u "java/lang/Double"), (0, u "doubleToLongBits"), (0, u "(D)J"), (145, .class_ 376), (0, u "java/util/Arrays$ArrayList"), (68, u "$assertionsDisabled"), (269, u "MIN_ARRAY_SORT_GRAN"), (0, u "I"), (2, u "INSERTIONSORT_THRESHOLD"), (74, u "binarySearch"), (11, u "([DD)I"), (168, .class_ 976), (0, u "java/util/Arrays$ArrayItr")] 52

def k4m0 : Method := { name := "<init>", desc := "()V", sig := { parameters := [], returnType := none }, accessFlags := 2, code := none }
def k4c1 : Code := { maxStack := 5, maxLocals := 3, code := jdk_65_method_69_code, exceptionTable := #[], attributes := #[] }
def k4m1 : Method := { name := "binarySearch", desc := "([DD)I", sig := { parameters := [(.array .double), .double], returnType := some .int }, accessFlags := 9, code := some k4c1 }
def k4c2 : Code := { maxStack := 4, maxLocals := 14, code := jdk_65_method_71_code, exceptionTable := #[], attributes := #[] }
def k4m2 : Method := { name := "binarySearch0", desc := "([DIID)I", sig := { parameters := [(.array .double), .int, .int, .double], returnType := some .int }, accessFlags := 10, code := some k4c2 }
/-- java/util/Arrays -/
def k4 : Class := { plain "java/util/Arrays" (some 0) with
  accessFlags := 49
  interfaces := #[]
  cf := some (fileOf pool4 14 #[.nestMembers #[975, 375, 113, 74]] #[{ accessFlags := 2, nameIndex := 5, descriptorIndex := 6, attributes := #[] }, { accessFlags := 9, nameIndex := 794, descriptorIndex := 806, attributes := #[] }, { accessFlags := 10, nameIndex := 207, descriptorIndex := 223, attributes := #[] }] 49 2 #[] #[{ accessFlags := 26, nameIndex := 715, descriptorIndex := 716, attributes := #[] }, { accessFlags := 26, nameIndex := 719, descriptorIndex := 716, attributes := #[] }, { accessFlags := 4120, nameIndex := 445, descriptorIndex := 117, attributes := #[] }])
  fields := #[{ name := "MIN_ARRAY_SORT_GRAN", type := .int, accessFlags := 26, slot := 0, constantValue := 0 }, { name := "INSERTIONSORT_THRESHOLD", type := .int, accessFlags := 26, slot := 1, constantValue := 0 }, { name := "$assertionsDisabled", type := .boolean, accessFlags := 4120, slot := 2, constantValue := 0 }]
  methods := #[k4m0, k4m1, k4m2]
  instanceTypes := #[]
  staticTypes := #[.int, .int, .boolean]
  resolved := Array.replicate 1029 none
  statics := none }

def pool5 : Array CpInfo := pool [(1, .class_ 2), (0, u "java/lang/Math"), (1, .class_ 6), (1, u "java/lang/Object"), (0, u "<init>"), (0, u "()V"), (43, u "(DD)D"), (45, .class_ 100), (1, u "java/lang/Math$RandomNumberGeneratorHolder"), (71, u "negativeZeroFloatBits"), (0, u "J"), (2, u "negativeZeroDoubleBits"), (21, u "max"), (2, u "min"), (43, u "$assertionsDisabled"), (0, u "Z"), (91, u "twoToTheDoubleScaleDown"), (0, u "D"), (4, u "twoToTheDoubleScaleUp"), (9, u "E"), (3, u "PI"), (2, u "TAU"), (2, u "DEGREES_TO_RADIANS"), (0, u "RADIANS_TO_DEGREES")] 94

def k5m0 : Method := { name := "<init>", desc := "()V", sig := { parameters := [], returnType := none }, accessFlags := 2, code := none }
def k5c1 : Code := { maxStack := 4, maxLocals := 4, code := jdk_29_method_68_code, exceptionTable := #[], attributes := #[] }
def k5m1 : Method := { name := "max", desc := "(DD)D", sig := { parameters := [.double, .double], returnType := some .double }, accessFlags := 9, code := some k5c1 }
def k5c2 : Code := { maxStack := 4, maxLocals := 4, code := jdk_29_method_72_code, exceptionTable := #[], attributes := #[] }
def k5m2 : Method := { name := "min", desc := "(DD)D", sig := { parameters := [.double, .double], returnType := some .double }, accessFlags := 9, code := some k5c2 }
/-- java/lang/Math -/
def k5 : Class := { plain "java/lang/Math" (some 0) with
  accessFlags := 49
  interfaces := #[]
  cf := some (fileOf pool5 1 #[.nestMembers #[98]] #[{ accessFlags := 2, nameIndex := 7, descriptorIndex := 8, attributes := #[] }, { accessFlags := 9, nameIndex := 198, descriptorIndex := 52, attributes := #[] }, { accessFlags := 9, nameIndex := 201, descriptorIndex := 52, attributes := #[] }] 49 4 #[] #[{ accessFlags := 25, nameIndex := 354, descriptorIndex := 339, attributes := #[] }, { accessFlags := 25, nameIndex := 358, descriptorIndex := 339, attributes := #[] }, { accessFlags := 25, nameIndex := 361, descriptorIndex := 339, attributes := #[] }, { accessFlags := 26, nameIndex := 364, descriptorIndex := 339, attributes := #[] }, { accessFlags := 26, nameIndex := 365, descriptorIndex := 339, attributes := #[] }, { accessFlags := 26, nameIndex := 172, descriptorIndex := 173, attributes := #[] }, { accessFlags := 26, nameIndex := 176, descriptorIndex := 173, attributes := #[] }, { accessFlags := 8, nameIndex := 344, descriptorIndex := 339, attributes := #[] }, { accessFlags := 8, nameIndex := 338, descriptorIndex := 339, attributes := #[] }, { accessFlags := 4120, nameIndex := 245, descriptorIndex := 246, attributes := #[] }])
  fields := #[{ name := "E", type := .double, accessFlags := 25, slot := 0, constantValue := 0 }, { name := "PI", type := .double, accessFlags := 25, slot := 1, constantValue := 0 }, { name := "TAU", type := .double, accessFlags := 25, slot := 2, constantValue := 0 }, { name := "DEGREES_TO_RADIANS", type := .double, accessFlags := 26, slot := 3, constantValue := 0 }, { name := "RADIANS_TO_DEGREES", type := .double, accessFlags := 26, slot := 4, constantValue := 0 }, { name := "negativeZeroFloatBits", type := .long, accessFlags := 26, slot := 5, constantValue := 0 }, { name := "negativeZeroDoubleBits", type := .long, accessFlags := 26, slot := 6, constantValue := 0 }, { name := "twoToTheDoubleScaleUp", type := .double, accessFlags := 8, slot := 7, constantValue := 0 }, { name := "twoToTheDoubleScaleDown", type := .double, accessFlags := 8, slot := 8, constantValue := 0 }, { name := "$assertionsDisabled", type := .boolean, accessFlags := 4120, slot := 9, constantValue := 0 }]
  methods := #[k5m0, k5m1, k5m2]
  instanceTypes := #[]
  staticTypes := #[.double, .double, .double, .double, .double, .long, .long, .double, .double, .boolean]
  resolved := Array.replicate 460 none
  statics := none }

def pool6 : Array CpInfo := pool [(1, .class_ 2), (0, u "java/io/Serializable"), (0, .class_ 4), (0, u "java/lang/Object")] 2

/-- java/io/Serializable -/
def k6 : Class := { plain "java/io/Serializable" (some 0) with
  accessFlags := 1537
  interfaces := #[]
  cf := some (fileOf pool6 1 #[] #[] 1537 3 #[] #[])
  fields := #[]
  methods := #[]
  instanceTypes := #[]
  staticTypes := #[]
  resolved := Array.replicate 7 none
  statics := none }

def pool7 : Array CpInfo := pool [(2, .class_ 4), (1, u "java/lang/Object"), (0, u "<init>"), (0, u "()V"), (1, .class_ 10), (1, u "java/lang/Number"), (2, .class_ 14), (0, u "java/io/Serializable"), (0, u "serialVersionUID"), (0, u "J")] 20

def k7m0 : Method := { name := "<init>", desc := "()V", sig := { parameters := [], returnType := none }, accessFlags := 1, code := none }
/-- java/lang/Number -/
def k7 : Class := { plain "java/lang/Number" (some 0) with
  accessFlags := 1057
  interfaces := #[6]
  cf := some (fileOf pool7 8 #[] #[{ accessFlags := 1, nameIndex := 5, descriptorIndex := 6, attributes := #[] }] 1057 2 #[13] #[{ accessFlags := 26, nameIndex := 15, descriptorIndex := 16, attributes := #[] }])
  fields := #[{ name := "serialVersionUID", type := .long, accessFlags := 26, slot := 0, constantValue := 0 }]
  methods := #[k7m0]
  instanceTypes := #[]
  staticTypes := #[.long]
  resolved := Array.replicate 37 none
  statics := none }

def pool8 : Array CpInfo := pool [(1, .class_ 2), (0, u "java/lang/Comparable"), (0, .class_ 4), (0, u "java/lang/Object")] 7

/-- java/lang/Comparable -/
def k8 : Class := { plain "java/lang/Comparable" (some 0) with
  accessFlags := 1537
  interfaces := #[]
  cf := some (fileOf pool8 1 #[] #[] 1537 3 #[] #[])
  fields := #[]
  methods := #[]
  instanceTypes := #[]
  staticTypes := #[]
  resolved := Array.replicate 12 none
  statics := none }

def pool9 : Array CpInfo := pool [(1, .class_ 2), (0, u "java/lang/constant/Constable"), (0, .class_ 4), (0, u "java/lang/Object")] 6

/-- java/lang/constant/Constable -/
def k9 : Class := { plain "java/lang/constant/Constable" (some 0) with
  accessFlags := 1537
  interfaces := #[]
  cf := some (fileOf pool9 1 #[] #[] 1537 3 #[] #[])
  fields := #[]
  methods := #[]
  instanceTypes := #[]
  staticTypes := #[]
  resolved := Array.replicate 11 none
  statics := none }

def pool10 : Array CpInfo := pool [(1, .class_ 2), (0, u "java/lang/constant/ConstantDesc"), (0, .class_ 4), (0, u "java/lang/Object")] 32

/-- java/lang/constant/ConstantDesc -/
def k10 : Class := { plain "java/lang/constant/ConstantDesc" (some 0) with
  accessFlags := 1537
  interfaces := #[]
  cf := some (fileOf pool10 1 #[] #[] 1537 3 #[] #[])
  fields := #[]
  methods := #[]
  instanceTypes := #[]
  staticTypes := #[]
  resolved := Array.replicate 37 none
  statics := none }

def pool11 : Array CpInfo := pool [(1, .class_ 2), (0, u "java/lang/Double"), (11, u "(D)Z"), (33, u "doubleToLongBits"), (0, u "(D)J"), (64, .class_ 116), (1, u "java/lang/Number"), (3, u "value"), (0, u "D"), (0, .methodref 1 123), (0, .nameAndType 124 14), (0, u "isNaN"), (9, .methodref 1 135), (0, .nameAndType 136 49), (0, u "doubleToRawLongBits"), (36, u "TYPE"), (0, u "Ljava/lang/Class;"), (0, .class_ 176), (0, u "java/lang/Comparable"), (0, .class_ 178), (0, u "java/lang/constant/Constable"), (0, .class_ 180), (0, u "java/lang/constant/ConstantDesc"), (0, u "POSITIVE_INFINITY"), (3, u "NEGATIVE_INFINITY"), (2, u "NaN"), (2, u "MAX_VALUE"), (0, u "MIN_NORMAL"), (0, u "MIN_VALUE"), (2, u "SIZE"), (0, u "I"), (1, u "PRECISION"), (1, u "MAX_EXPONENT"), (1, u "MIN_EXPONENT"), (1, u "BYTES"), (3, u "serialVersionUID"), (0, u "J")] 79

def k11c0 : Code := { maxStack := 4, maxLocals := 2, code := jdk_117_method_6_code, exceptionTable := #[], attributes := #[] }
def k11m0 : Method := { name := "isNaN", desc := "(D)Z", sig := { parameters := [.double], returnType := some .boolean }, accessFlags := 9, code := some k11c0 }
def k11c1 : Code := { maxStack := 2, maxLocals := 2, code := jdk_117_method_23_code, exceptionTable := #[], attributes := #[] }
def k11m1 : Method := { name := "doubleToLongBits", desc := "(D)J", sig := { parameters := [.double], returnType := some .long }, accessFlags := 9, code := some k11c1 }
def k11m2 : Method := { name := "doubleToRawLongBits", desc := "(D)J", sig := { parameters := [.double], returnType := some .long }, accessFlags := 265, code := none }
/-- java/lang/Double -/
def k11 : Class := { plain "java/lang/Double" (some 7) with
  accessFlags := 49
  interfaces := #[8, 9, 10]
  cf := some (fileOf pool11 1 #[] #[{ accessFlags := 9, nameIndex := 124, descriptorIndex := 14, attributes := #[] }, { accessFlags := 9, nameIndex := 48, descriptorIndex := 49, attributes := #[] }, { accessFlags := 265, nameIndex := 136, descriptorIndex := 49, attributes := #[] }] 49 114 #[175, 177, 179] #[{ accessFlags := 25, nameIndex := 181, descriptorIndex := 121, attributes := #[] }, { accessFlags := 25, nameIndex := 185, descriptorIndex := 121, attributes := #[] }, { accessFlags := 25, nameIndex := 188, descriptorIndex := 121, attributes := #[] }, { accessFlags := 25, nameIndex := 191, descriptorIndex := 121, attributes := #[] }, { accessFlags := 25, nameIndex := 192, descriptorIndex := 121, attributes := #[] }, { accessFlags := 25, nameIndex := 193, descriptorIndex := 121, attributes := #[] }, { accessFlags := 25, nameIndex := 196, descriptorIndex := 197, attributes := #[] }, { accessFlags := 25, nameIndex := 199, descriptorIndex := 197, attributes := #[] }, { accessFlags := 25, nameIndex := 201, descriptorIndex := 197, attributes := #[] }, { accessFlags := 25, nameIndex := 203, descriptorIndex := 197, attributes := #[] }, { accessFlags := 25, nameIndex := 205, descriptorIndex := 197, attributes := #[] }, { accessFlags := 25, nameIndex := 173, descriptorIndex := 174, attributes := #[] }, { accessFlags := 18, nameIndex := 120, descriptorIndex := 121, attributes := #[] }, { accessFlags := 26, nameIndex := 209, descriptorIndex := 210, attributes := #[] }])
  fields := #[{ name := "POSITIVE_INFINITY", type := .double, accessFlags := 25, slot := 0, constantValue := 0 }, { name := "NEGATIVE_INFINITY", type := .double, accessFlags := 25, slot := 1, constantValue := 0 }, { name := "NaN", type := .double, accessFlags := 25, slot := 2, constantValue := 0 }, { name := "MAX_VALUE", type := .double, accessFlags := 25, slot := 3, constantValue := 0 }, { name := "MIN_NORMAL", type := .double, accessFlags := 25, slot := 4, constantValue := 0 }, { name := "MIN_VALUE", type := .double, accessFlags := 25, slot := 5, constantValue := 0 }, { name := "SIZE", type := .int, accessFlags := 25, slot := 6, constantValue := 0 }, { name := "PRECISION", type := .int, accessFlags := 25, slot := 7, constantValue := 0 }, { name := "MAX_EXPONENT", type := .int, accessFlags := 25, slot := 8, constantValue := 0 }, { name := "MIN_EXPONENT", type := .int, accessFlags := 25, slot := 9, constantValue := 0 }, { name := "BYTES", type := .int, accessFlags := 25, slot := 10, constantValue := 0 }, { name := "TYPE", type := (.object "java/lang/Class"), accessFlags := 25, slot := 11, constantValue := 0 }, { name := "value", type := .double, accessFlags := 18, slot := 0, constantValue := 0 }, { name := "serialVersionUID", type := .long, accessFlags := 26, slot := 12, constantValue := 0 }]
  methods := #[k11m0, k11m1, k11m2]
  instanceTypes := #[.double]
  staticTypes := #[.double, .double, .double, .double, .double, .double, .int, .int, .int, .int, .int, (.object "java/lang/Class"), .long]
  resolved := Array.replicate 290 none
  statics := none }

/-- the primitive byte -/
def k12 : Class := { plain "byte" none with kind := .primitive 'B', accessFlags := 0x411 }
/-- [B -/
def k13 : Class := { plain "[B" (some 0) with kind := .array 12 .byte, interfaces := #[3, 6], accessFlags := 1041 }

/-- the primitive double -/
def k14 : Class := { plain "double" none with kind := .primitive 'D', accessFlags := 0x411 }
/-- [D -/
def k15 : Class := { plain "[D" (some 0) with kind := .array 14 .double, interfaces := #[3, 6], accessFlags := 1041 }

/-- the primitive int -/
def k16 : Class := { plain "int" none with kind := .primitive 'I', accessFlags := 0x411 }
/-- [I -/
def k17 : Class := { plain "[I" (some 0) with kind := .array 16 .int, interfaces := #[3, 6], accessFlags := 1041 }

def heap : Heap := #[]
def classes : Array Class := #[k0, k1, k2, k3, k4, k5, k6, k7, k8, k9, k10, k11, k12, k13, k14, k15, k16, k17]
def interned : List (Array UInt16 × Addr) := []
def slotsUsed : Nat := 0
def theMethod : MethodId := ⟨1, 1⟩
def args0 : Array Value := #[.int 5, .int 7, .int 3, .int 2]
def aboutOver (below : List Frame) : State where
  vm := { classes := classes, interned := interned.toArray }
  heap := heap
  slotsUsed := slotsUsed
  threads := #[{ frames := .invoking theMethod args0 :: below }]
def below0 : List Frame := [.native { method := ⟨0, 0⟩, args := #[] }]
def about1 : State := aboutOver below0
def p0 : Program := .bare "" "" ""
def e0 : Env := launch0.env 0 0 0
theorem w_frames : about1.frames = Frame.invoking theMethod args0 :: below0 := rfl
set_option maxRecDepth 65536 in
theorem w_args : argsFit about1.vm theMethod args0 = true := by decide +kernel
set_option maxRecDepth 65536 in
theorem w_heap : heapFits about1 = true := by decide +kernel
set_option maxRecDepth 65536 in
theorem w_runnable : about1.curStatus? = some .runnable := by decide +kernel
set_option maxRecDepth 65536 in
theorem w_alone : about1.alone = true := by decide +kernel
set_option maxRecDepth 65536 in
theorem w_named : about1.methodNamed? x = some theMethod := by decide +kernel
set_option maxRecDepth 65536 in
theorem w_hears : about1.hears theMethod below0 = true := by decide +kernel
set_option maxRecDepth 65536 in
theorem w_ripe : about1.ripe theMethod args0 below0 = true := by decide +kernel
theorem w_running : about1.status = .running := rfl
set_option maxRecDepth 65536 in
theorem w_room : about1.hasRoom e0.platform room_1 = true :=
  launch0.hasRoom_least _ room_1 (by decide +kernel) (by decide +kernel) (by decide +kernel) (by decide +kernel) (by decide +kernel) (by decide +kernel)
theorem allAtoms_all (ts : List Jvm.Cond) (a : Array Jvm.Value) (st : Jvm.State) : (allAtoms ts).before a st = ts.all (fun c => c.before a st) := by
  induction ts with
  | nil => rfl
  | cons c t ih =>
    show (Jvm.Cond.and c (allAtoms t)).before a st = _
    rw [Jvm.Cond.before_and, ih, List.all_cons]
def words1 : List Jvm.Cond := Jvm.Cond.code x code maxLocals ret :: tables_1
/-- a 'code' word, met by the world's own term for the bytes: nothing is compared byte by byte -/
theorem code_word {y : MethodName} {bytes : ByteArray} {mx : Nat} {rt : Option FieldType} {a : Array Value} {s : State} {m : MethodId} {meth : Method} {c : Code} (h1 : s.methodNamed? y = some m) (h2 : s.vm.method? m = some meth) (h3 : meth.code = some c) (h4 : c.code = bytes)
    (h5 : (c.maxLocals == mx && c.exceptionTable.isEmpty && decide (c.maxStack ≤ mostOperands) && decide (meth.sig.returnType = rt) && !meth.locks && decide (parseMethodDescriptor y.desc = some meth.sig)) = true) : (Jvm.Cond.code y bytes mx rt).before a s = true := by
  simp only [Bool.and_eq_true, beq_iff_eq, Bool.not_eq_true', decide_eq_true_eq] at h5
  obtain ⟨⟨⟨⟨⟨g1, g2⟩, g3⟩, g4⟩, g5⟩, g6⟩ := h5
  simp [Cond.before, Cond.holds, Cond.value, h1, h2, h3, h4, g1, g2, g3, g4, g5, g6]
def isCode : Jvm.Cond → Bool
  | .code _ _ _ _ => true
  | _ => false
theorem all_split {L : List Jvm.Cond} {P : Jvm.Cond → Bool} (h1 : L.all (fun c => isCode c || P c) = true) (h2 : ∀ c ∈ L.filter isCode, P c = true) : L.all P = true := by
  refine List.all_eq_true.mpr fun c hc => ?_
  have h := List.all_eq_true.mp h1 c hc
  rcases Bool.eq_false_or_eq_true (isCode c) with hi | hi
  · exact h2 c (List.mem_filter.mpr ⟨hc, hi⟩)
  · simpa [hi] using h
set_option maxRecDepth 65536 in
theorem w_c0 : (Jvm.Cond.code x code maxLocals ret).before args0 about1 = true := code_word (m := ⟨1, 1⟩) (meth := k1m1) (c := k1c1) (by decide +kernel) rfl rfl rfl (by decide +kernel)
set_option maxRecDepth 65536 in
theorem w_c1 : (Jvm.Cond.code ({ cls := "com/example/hedgeway/hedgeway/routing/Lambdas", name := "grid", desc := "([DD)Lcom/example/hedgeway/hedgeway/routing/Lambdas;" } : Jvm.MethodName) prog_29_method_2_code (3 : Nat) (Option.some (Jvm.ClassFile.FieldType.object "com/example/hedgeway/hedgeway/routing/Lambdas"))).before args0 about1 = true := code_word (m := ⟨2, 1⟩) (meth := k2m1) (c := k2c1) (by decide +kernel) rfl rfl rfl (by decide +kernel)
set_option maxRecDepth 65536 in
theorem w_c2 : (Jvm.Cond.code ({ cls := "com/example/hedgeway/hedgeway/routing/Lambdas", name := "<init>", desc := "([DD)V" } : Jvm.MethodName) prog_29_method_1_code (4 : Nat) (Option.none : Option Jvm.ClassFile.FieldType)).before args0 about1 = true := code_word (m := ⟨2, 0⟩) (meth := k2m0) (c := k2c0) (by decide +kernel) rfl rfl rfl (by decide +kernel)
set_option maxRecDepth 65536 in
theorem w_c3 : (Jvm.Cond.code ({ cls := "java/lang/Object", name := "<init>", desc := "()V" } : Jvm.MethodName) object_method_1_code (1 : Nat) (Option.none : Option Jvm.ClassFile.FieldType)).before args0 about1 = true := code_word (m := ⟨0, 0⟩) (meth := k0m0) (c := k0c0) (by decide +kernel) rfl rfl rfl (by decide +kernel)
set_option maxRecDepth 65536 in
theorem w_c4 : (Jvm.Cond.code ({ cls := "com/example/hedgeway/hedgeway/routing/Lambdas", name := "isGrid", desc := "()Z" } : Jvm.MethodName) prog_29_method_3_code (1 : Nat) (Option.some Jvm.ClassFile.FieldType.boolean)).before args0 about1 = true := code_word (m := ⟨2, 2⟩) (meth := k2m2) (c := k2c2) (by decide +kernel) rfl rfl rfl (by decide +kernel)
set_option maxRecDepth 65536 in
theorem w_c5 : (Jvm.Cond.code ({ cls := "com/example/hedgeway/hedgeway/routing/Lambdas", name := "errorBound", desc := "()D" } : Jvm.MethodName) prog_29_method_4_code (1 : Nat) (Option.some Jvm.ClassFile.FieldType.double)).before args0 about1 = true := code_word (m := ⟨2, 3⟩) (meth := k2m3) (c := k2c3) (by decide +kernel) rfl rfl rfl (by decide +kernel)
set_option maxRecDepth 65536 in
theorem w_c6 : (Jvm.Cond.code ({ cls := "com/example/hedgeway/hedgeway/routing/Lambdas", name := "between", desc := "(DDD)D" } : Jvm.MethodName) prog_29_method_5_code (9 : Nat) (Option.some Jvm.ClassFile.FieldType.double)).before args0 about1 = true := code_word (m := ⟨2, 4⟩) (meth := k2m4) (c := k2c4) (by decide +kernel) rfl rfl rfl (by decide +kernel)
set_option maxRecDepth 65536 in
theorem w_c7 : (Jvm.Cond.code ({ cls := "com/example/hedgeway/hedgeway/routing/Lambdas", name := "nearestBetween", desc := "(DDD)D" } : Jvm.MethodName) prog_29_method_6_code (12 : Nat) (Option.some Jvm.ClassFile.FieldType.double)).before args0 about1 = true := code_word (m := ⟨2, 5⟩) (meth := k2m5) (c := k2c5) (by decide +kernel) rfl rfl rfl (by decide +kernel)
set_option maxRecDepth 65536 in
theorem w_c8 : (Jvm.Cond.code ({ cls := "com/example/hedgeway/hedgeway/routing/Lambdas", name := "firstAbove", desc := "(D)I" } : Jvm.MethodName) prog_29_method_7_code (4 : Nat) (Option.some Jvm.ClassFile.FieldType.int)).before args0 about1 = true := code_word (m := ⟨2, 6⟩) (meth := k2m6) (c := k2c6) (by decide +kernel) rfl rfl rfl (by decide +kernel)
set_option maxRecDepth 65536 in
theorem w_c9 : (Jvm.Cond.code ({ cls := "java/util/Arrays", name := "binarySearch", desc := "([DD)I" } : Jvm.MethodName) jdk_65_method_69_code (3 : Nat) (Option.some Jvm.ClassFile.FieldType.int)).before args0 about1 = true := code_word (m := ⟨4, 1⟩) (meth := k4m1) (c := k4c1) (by decide +kernel) rfl rfl rfl (by decide +kernel)
set_option maxRecDepth 65536 in
theorem w_c10 : (Jvm.Cond.code ({ cls := "java/util/Arrays", name := "binarySearch0", desc := "([DIID)I" } : Jvm.MethodName) jdk_65_method_71_code (14 : Nat) (Option.some Jvm.ClassFile.FieldType.int)).before args0 about1 = true := code_word (m := ⟨4, 2⟩) (meth := k4m2) (c := k4c2) (by decide +kernel) rfl rfl rfl (by decide +kernel)
set_option maxRecDepth 65536 in
theorem w_c11 : (Jvm.Cond.code ({ cls := "com/example/hedgeway/hedgeway/routing/Lambdas", name := "firstAtLeast", desc := "(D)I" } : Jvm.MethodName) prog_29_method_8_code (4 : Nat) (Option.some Jvm.ClassFile.FieldType.int)).before args0 about1 = true := code_word (m := ⟨2, 7⟩) (meth := k2m7) (c := k2c7) (by decide +kernel) rfl rfl rfl (by decide +kernel)
set_option maxRecDepth 65536 in
theorem w_c12 : (Jvm.Cond.code ({ cls := "java/lang/Math", name := "max", desc := "(DD)D" } : Jvm.MethodName) jdk_29_method_68_code (4 : Nat) (Option.some Jvm.ClassFile.FieldType.double)).before args0 about1 = true := code_word (m := ⟨5, 1⟩) (meth := k5m1) (c := k5c1) (by decide +kernel) rfl rfl rfl (by decide +kernel)
set_option maxRecDepth 65536 in
theorem w_c13 : (Jvm.Cond.code ({ cls := "java/lang/Math", name := "min", desc := "(DD)D" } : Jvm.MethodName) jdk_29_method_72_code (4 : Nat) (Option.some Jvm.ClassFile.FieldType.double)).before args0 about1 = true := code_word (m := ⟨5, 2⟩) (meth := k5m2) (c := k5c2) (by decide +kernel) rfl rfl rfl (by decide +kernel)
set_option maxRecDepth 65536 in
theorem w_c14 : (Jvm.Cond.code ({ cls := "java/lang/Double", name := "doubleToLongBits", desc := "(D)J" } : Jvm.MethodName) jdk_117_method_23_code (2 : Nat) (Option.some Jvm.ClassFile.FieldType.long)).before args0 about1 = true := code_word (m := ⟨11, 1⟩) (meth := k11m1) (c := k11c1) (by decide +kernel) rfl rfl rfl (by decide +kernel)
set_option maxRecDepth 65536 in
theorem w_c15 : (Jvm.Cond.code ({ cls := "java/lang/Double", name := "isNaN", desc := "(D)Z" } : Jvm.MethodName) jdk_117_method_6_code (2 : Nat) (Option.some Jvm.ClassFile.FieldType.boolean)).before args0 about1 = true := code_word (m := ⟨11, 0⟩) (meth := k11m0) (c := k11c0) (by decide +kernel) rfl rfl rfl (by decide +kernel)
def codes1 : List Jvm.Cond := [Jvm.Cond.code x code maxLocals ret, Jvm.Cond.code ({ cls := "com/example/hedgeway/hedgeway/routing/Lambdas", name := "grid", desc := "([DD)Lcom/example/hedgeway/hedgeway/routing/Lambdas;" } : Jvm.MethodName) prog_29_method_2_code (3 : Nat) (Option.some (Jvm.ClassFile.FieldType.object "com/example/hedgeway/hedgeway/routing/Lambdas")), Jvm.Cond.code ({ cls := "com/example/hedgeway/hedgeway/routing/Lambdas", name := "<init>", desc := "([DD)V" } : Jvm.MethodName) prog_29_method_1_code (4 : Nat) (Option.none : Option Jvm.ClassFile.FieldType), Jvm.Cond.code ({ cls := "java/lang/Object", name := "<init>", desc := "()V" } : Jvm.MethodName) object_method_1_code (1 : Nat) (Option.none : Option Jvm.ClassFile.FieldType), Jvm.Cond.code ({ cls := "com/example/hedgeway/hedgeway/routing/Lambdas", name := "isGrid", desc := "()Z" } : Jvm.MethodName) prog_29_method_3_code (1 : Nat) (Option.some Jvm.ClassFile.FieldType.boolean), Jvm.Cond.code ({ cls := "com/example/hedgeway/hedgeway/routing/Lambdas", name := "errorBound", desc := "()D" } : Jvm.MethodName) prog_29_method_4_code (1 : Nat) (Option.some Jvm.ClassFile.FieldType.double), Jvm.Cond.code ({ cls := "com/example/hedgeway/hedgeway/routing/Lambdas", name := "between", desc := "(DDD)D" } : Jvm.MethodName) prog_29_method_5_code (9 : Nat) (Option.some Jvm.ClassFile.FieldType.double), Jvm.Cond.code ({ cls := "com/example/hedgeway/hedgeway/routing/Lambdas", name := "nearestBetween", desc := "(DDD)D" } : Jvm.MethodName) prog_29_method_6_code (12 : Nat) (Option.some Jvm.ClassFile.FieldType.double), Jvm.Cond.code ({ cls := "com/example/hedgeway/hedgeway/routing/Lambdas", name := "firstAbove", desc := "(D)I" } : Jvm.MethodName) prog_29_method_7_code (4 : Nat) (Option.some Jvm.ClassFile.FieldType.int), Jvm.Cond.code ({ cls := "java/util/Arrays", name := "binarySearch", desc := "([DD)I" } : Jvm.MethodName) jdk_65_method_69_code (3 : Nat) (Option.some Jvm.ClassFile.FieldType.int), Jvm.Cond.code ({ cls := "java/util/Arrays", name := "binarySearch0", desc := "([DIID)I" } : Jvm.MethodName) jdk_65_method_71_code (14 : Nat) (Option.some Jvm.ClassFile.FieldType.int), Jvm.Cond.code ({ cls := "com/example/hedgeway/hedgeway/routing/Lambdas", name := "firstAtLeast", desc := "(D)I" } : Jvm.MethodName) prog_29_method_8_code (4 : Nat) (Option.some Jvm.ClassFile.FieldType.int), Jvm.Cond.code ({ cls := "java/lang/Math", name := "max", desc := "(DD)D" } : Jvm.MethodName) jdk_29_method_68_code (4 : Nat) (Option.some Jvm.ClassFile.FieldType.double), Jvm.Cond.code ({ cls := "java/lang/Math", name := "min", desc := "(DD)D" } : Jvm.MethodName) jdk_29_method_72_code (4 : Nat) (Option.some Jvm.ClassFile.FieldType.double), Jvm.Cond.code ({ cls := "java/lang/Double", name := "doubleToLongBits", desc := "(D)J" } : Jvm.MethodName) jdk_117_method_23_code (2 : Nat) (Option.some Jvm.ClassFile.FieldType.long), Jvm.Cond.code ({ cls := "java/lang/Double", name := "isNaN", desc := "(D)Z" } : Jvm.MethodName) jdk_117_method_6_code (2 : Nat) (Option.some Jvm.ClassFile.FieldType.boolean)]
set_option maxRecDepth 65536 in
theorem codes_eq : words1.filter isCode = codes1 := rfl
theorem w_codes : ∀ c ∈ words1.filter isCode, c.before args0 about1 = true := by
  rw [codes_eq]
  intro c hc
  simp only [codes1, List.mem_cons, List.not_mem_nil, or_false] at hc
  rcases hc with rfl | rfl | rfl | rfl | rfl | rfl | rfl | rfl | rfl | rfl | rfl | rfl | rfl | rfl | rfl | rfl
  · exact w_c0
  · exact w_c1
  · exact w_c2
  · exact w_c3
  · exact w_c4
  · exact w_c5
  · exact w_c6
  · exact w_c7
  · exact w_c8
  · exact w_c9
  · exact w_c10
  · exact w_c11
  · exact w_c12
  · exact w_c13
  · exact w_c14
  · exact w_c15
set_option maxRecDepth 65536 in
theorem w_t1 : (words1.take 24).all (fun c => isCode c || c.before args0 about1) = true := by decide +kernel
set_option maxRecDepth 65536 in
theorem w_t2 : ((words1.drop 24).take 24).all (fun c => isCode c || c.before args0 about1) = true := by decide +kernel
set_option maxRecDepth 65536 in
theorem w_t3 : (((words1.drop 24).drop 24).take 24).all (fun c => isCode c || c.before args0 about1) = true := by decide +kernel
set_option maxRecDepth 65536 in
theorem w_t4 : (((words1.drop 24).drop 24).drop 24).all (fun c => isCode c || c.before args0 about1) = true := by decide +kernel
theorem w_tables : (allAtoms (Jvm.Cond.code x code maxLocals ret :: tables_1)).before args0 about1 = true := by
  rw [allAtoms_all]
  show words1.all (fun c => c.before args0 about1) = true
  refine all_split ?_ w_codes
  rw [← List.take_append_drop 24 words1, List.all_append, w_t1, ← List.take_append_drop 24 (words1.drop 24), List.all_append, w_t2, ← List.take_append_drop 24 ((words1.drop 24).drop 24), List.all_append, w_t3, w_t4]
  rfl
set_option maxRecDepth 65536 in
theorem w_case : (Jvm.Cond.and given_1 narrow_1).before args0 about1 = true := by decide +kernel
theorem w_applies : (headSpec (Jvm.Cond.code x code maxLocals ret :: tables_1) room_1).applies x e0.platform about1 = true :=
  (Spec.applies_iff w_frames).mpr ⟨w_running, w_runnable, w_alone, w_named, w_hears, w_ripe, w_room, w_tables⟩
theorem atStart : AtStart classFile x code maxLocals ret World_1 tables_1 room_1 Calls_1 rest_1 Pre_1 launch0 p0 e0 about1 theMethod args0 below0 :=
  ⟨lists_1, trivial, launch0.admits_env _ _ _, launch0.least_env, fairChoices_fair.cas, fairChoices_fair.clock, w_frames, w_args, w_heap, w_applies, trivial, trivial, w_case⟩
end start1
theorem witness_1 : WitnessClaimed_1 := ⟨start1.p0, start1.e0, start1.about1, start1.theMethod, start1.args0, start1.below0, start1.atStart⟩
end Jvm.Pilot.@@N@@
